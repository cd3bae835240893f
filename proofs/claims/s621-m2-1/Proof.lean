import JvmDerived
import JvmDerived.Pilot.@@N@@Statement
import JvmDerived.Pilot.@@N@@Code
set_option linter.unusedVariables false
set_option linter.unusedSimpArgs false
namespace Jvm.RoadKit
open Sem ClassFile Op Lib Jvm.Stand Jvm.Free Jvm.LawKit
section New
variable {p : Program} {l : Launch} {e : Env} {R : Room} {s : State} {m : MethodId} {args : Array Value} {below : List Frame} {meth : Method} {c : Code} {T : State} {locs : List Loc} {cells slots : Nat}
theorem retI (X : Stand p l e R s m args below meth c T locs cells slots) (hx : p.tables.exec = Jvm.exec) {pc : Nat} {Ls : Array Slot} {z : Int32} {rest : List Value} (hret : meth.sig.returnType = some .int) (hd : decode c.code pc = .ok (.ireturn, 1)) {fs : List Frame}
    (hl : ∀ (f : JFrame) (acts : List Action), f.method = m → f.locked = none → f.entered = [] → (doReturn e (T.setTop f) acts (some (.int z))).1 = T.setFrames fs) : Steps p.tables e below (T.setTop (mkF m pc Ls (.int z :: rest))) (T.setFrames fs) := by
  have hm' : T.vm.method? m = some meth := X.method'
  have hn : narrow .int (.int z) = .int z := rfl
  show Steps p.tables e below (T.setTop { method := m, pc := pc, locals := Ls, stack := _ :: rest, locked := none }) _
  jvm_step X.here [X.here.top, hx, hd, hm', hret, hn]
  first | (intro acts; rw [hl _ acts rfl rfl rfl]) | rw [hl _ _ rfl rfl rfl]
  exact Steps.refl _
end New
end Jvm.RoadKit
namespace Jvm.FP.Core
theorem own_2 : (2 : Rat) ≠ 0 := by decide
theorem own_p0 (q : Int) : (0 : Rat) < 2 ^ q := Rat.zpow_pos (by decide)
theorem own_pn (n : Nat) : ((2 ^ n : Nat) : Rat) = (2 : Rat) ^ (n : Int) := by
  rw [Rat.zpow_natCast, Rat.natCast_pow]; rfl
theorem own_pa {a b c : Int} (h : a = b + c) : (2 : Rat) ^ a = 2 ^ b * 2 ^ c := by rw [h, Rat.zpow_add own_2]
theorem own_p1 (q : Int) : (2 : Rat) ^ (q + 1) = 2 * 2 ^ q := by rw [own_pa (b := 1) (c := q) (by omega)]; rfl
theorem own_pm {a b : Int} (h : a ≤ b) : (2 : Rat) ^ a ≤ 2 ^ b := by
  obtain ⟨n, hn⟩ : ∃ n : Nat, b = n + a := ⟨(b - a).toNat, by omega⟩
  rw [own_pa hn, ← own_pn]
  have h1 : (1 : Rat) ≤ ((2 ^ n : Nat) : Rat) := by
    have := Rat.natCast_le_natCast.mpr (Nat.two_pow_pos n); exact this
  have := Rat.mul_le_mul_of_nonneg_right h1 (Rat.le_of_lt (own_p0 a))
  rw [Rat.one_mul] at this; exact this
theorem own_below {A B : Nat} {a : Int} (h : (A : Rat) < B * 2 ^ a) : Below A B a := by
  unfold Below
  have h1 := Rat.mul_lt_mul_of_pos_right h (own_p0 ((-a).toNat : Nat))
  have e : (B : Rat) * 2 ^ a * 2 ^ (((-a).toNat : Nat) : Int) = B * 2 ^ ((a.toNat : Nat) : Int) := by
    rw [Rat.mul_assoc, ← own_pa (a := ((a.toNat : Nat) : Int)) (by omega)]
  rw [e, ← own_pn, ← own_pn, ← Rat.natCast_mul, ← Rat.natCast_mul] at h1
  exact Rat.natCast_lt_natCast.mp h1
/-- a magnitude below 2^k is rounded by at most 2^(k-54) -/
theorem own_ratio {s : Bool} {A B : Nat} {e k : Int} {x : Rat} (hB : 0 < B) (hx : x * B = A * 2 ^ e) (hk : -900 ≤ k) (hk' : k ≤ 900) (h : x < 2 ^ k) :
    ∃ c q, roundRatio b64 s A B e = .fin s c q ∧ (c : Rat) * 2 ^ q ≤ x + 2 ^ (k - 54) ∧ x ≤ c * 2 ^ q + 2 ^ (k - 54) := by
  have hB' : (0 : Rat) < B := Rat.natCast_pos.mpr hB
  by_cases hA : A = 0
  · refine ⟨0, b64.qmin, by unfold roundRatio; rw [if_pos hA], ?_⟩
    have x0 : x = 0 := by
      rw [hA] at hx
      have : x * B = 0 := by rw [hx]; simp
      rcases Rat.mul_eq_zero.mp this with q | q
      · exact q
      · rw [q] at hB'; exact absurd hB' (by decide)
    have := own_p0 (k - 54)
    subst x0
    constructor
    · rw [show ((0 : Nat) : Rat) = 0 from rfl, Rat.zero_mul]; grind
    · rw [show ((0 : Nat) : Rat) = 0 from rfl, Rat.zero_mul]; grind
  have hA' : 0 < A := by omega
  have hbel : Below A B (k - e) := by
    refine own_below ?_
    have h1 := Rat.mul_lt_mul_of_pos_right h hB'
    rw [hx] at h1
    have h2 := Rat.mul_lt_mul_of_pos_right h1 (own_p0 (-e))
    rw [Rat.mul_assoc, ← own_pa (a := 0) (by omega), Rat.zpow_zero, Rat.mul_one, Rat.mul_assoc, Rat.mul_comm (B : Rat), ← Rat.mul_assoc, ← own_pa (a := k - e) (by omega), Rat.mul_comm] at h2
    exact h2
  have hl := lt_of_below (leading_spec hA' hB).1 hbel
  have hq : quantum b64 A B e ≤ k - 53 := by
    unfold quantum
    have e1 : b64.qmin = -1074 := by decide
    have e2 : (b64.p : Int) = 53 := by decide
    rw [e1, e2]; omega
  have hn := nearest_units_le (f := b64) hA' hB e
  have hsp := nearest_spec (unitsNum A e (quantum b64 A B e)) (unitsDen B e (quantum b64 A B e)) (unitsDen_pos hB ..)
  unfold roundRatio roundAt
  rw [if_neg hA]
  generalize quantum b64 A B e = q at *
  have hU : (unitsNum A e q : Rat) * 2 ^ q = x * (unitsDen B e q : Nat) := by
    unfold unitsNum unitsDen
    rw [Rat.natCast_mul, Rat.natCast_mul, own_pn, own_pn, ← Rat.mul_assoc x, hx, Rat.mul_assoc, Rat.mul_assoc, ← Rat.zpow_add own_2, ← Rat.zpow_add own_2]
    congr 2; omega
  have hD : (0 : Rat) < (unitsDen B e q : Nat) := Rat.natCast_pos.mpr (unitsDen_pos hB ..)
  generalize nearest (unitsNum A e q) (unitsDen B e q) = n at *
  generalize unitsNum A e q = UN at *
  generalize unitsDen B e q = UD at *
  obtain ⟨s1, s2, -⟩ := hsp
  have s1' : (2 : Rat) * UN ≤ (2 * n + 1) * UD := by
    have := Rat.natCast_le_natCast.mpr s1
    simpa [Rat.natCast_mul, Rat.natCast_add] using this
  have s2' : (2 : Rat) * n * UD ≤ 2 * UN + UD := by
    have := Rat.natCast_le_natCast.mpr s2
    simpa [Rat.natCast_mul, Rat.natCast_add] using this
  have pq := own_p0 q
  have r1 : 2 * x ≤ (2 * n + 1) * 2 ^ q := by
    refine Rat.le_of_mul_le_mul_right (c := UD) ?_ hD
    have := Rat.mul_le_mul_of_nonneg_right s1' (Rat.le_of_lt pq)
    have e1 : 2 * x * UD = 2 * UN * 2 ^ q := by rw [Rat.mul_assoc, ← hU, Rat.mul_assoc]
    rw [e1]; grind
  have r2 : 2 * n * 2 ^ q ≤ 2 * x + 2 ^ q := by
    refine Rat.le_of_mul_le_mul_right (c := UD) ?_ hD
    have := Rat.mul_le_mul_of_nonneg_right s2' (Rat.le_of_lt pq)
    grind
  have hp : (2 : Rat) ^ q ≤ 2 * 2 ^ (k - 54) := by
    rw [← own_p1]; exact own_pm (by omega)
  have R1 : (n : Rat) * 2 ^ q ≤ x + 2 ^ (k - 54) := by grind
  have R2 : x ≤ n * 2 ^ q + 2 ^ (k - 54) := by grind
  have e3 : b64.qmax = 971 := by decide
  unfold settle bound
  by_cases hc : n < 2 ^ b64.p
  · rw [if_pos hc, if_pos (by omega)]; exact ⟨n, q, rfl, R1, R2⟩
  · rw [if_neg hc, if_pos (by omega)]
    have hn' : n = b64.tails * 2 := by
      have := two_tails good_b64; omega
    refine ⟨b64.tails, q + 1, rfl, ?_⟩
    have : (b64.tails : Rat) * 2 ^ (q + 1) = n * 2 ^ q := by rw [own_p1, hn', Rat.natCast_mul, Rat.mul_assoc]; rfl
    rw [this]; exact ⟨R1, R2⟩
/-! values as rationals -/
def own_rv : Datum → Rat
  | .fin s c q => (signed s c : Int) * 2 ^ q
  | _ => 0
theorem own_sgn (s : Bool) (c : Nat) : ((signed s c : Int) : Rat) = if s then -(c : Rat) else (c : Rat) := by
  cases s <;> simp [signed] <;> rfl
theorem own_rvu (s : Bool) (c : Nat) {q m : Int} (h : m ≤ q) : ((signed s (inUnits c q m) : Int) : Rat) * 2 ^ m = (signed s c : Int) * 2 ^ q := by
  have e : ((inUnits c q m : Nat) : Rat) * 2 ^ m = c * 2 ^ q := by
    unfold inUnits
    rw [Rat.natCast_mul, own_pn, Rat.mul_assoc, ← own_pa (a := q) (by omega)]
  rw [own_sgn, own_sgn]
  cases s
  · exact e
  · simp only [if_true]; grind
theorem own_rvneg (s : Bool) (c : Nat) (q : Int) : own_rv (negate (.fin s c q)) = - own_rv (.fin s c q) := by
  show ((signed (!s) c : Int) : Rat) * 2 ^ q = -(((signed s c : Int) : Rat) * 2 ^ q)
  rw [own_sgn, own_sgn]; cases s <;> simp <;> grind
theorem own_sumS (s t : Bool) (v : Int) : signed (sumSign s t v) v.natAbs = v := by
  unfold sumSign signed
  by_cases h : v = 0
  · subst h; cases s <;> cases t <;> rfl
  · rw [if_neg h]; by_cases h' : v < 0 <;> simp [h'] <;> omega
theorem own_rvsum (s : Bool) (c : Nat) (q : Int) (t : Bool) (d : Nat) (r : Int) : own_rv (exactSum (.fin s c q) (.fin t d r)) = own_rv (.fin s c q) + own_rv (.fin t d r) := by
  show ((signed (sumSign s t (sumUnits s c q t d r (min q r))) (sumUnits s c q t d r (min q r)).natAbs : Int) : Rat) * 2 ^ (min q r) = ((signed s c : Int) : Rat) * 2 ^ q + ((signed t d : Int) : Rat) * 2 ^ r
  rw [own_sumS, ← own_rvu s c (m := min q r) (by omega), ← own_rvu t d (m := min q r) (by omega)]
  unfold sumUnits
  rw [Rat.intCast_add, Rat.add_mul]
theorem own_rvmul (s : Bool) (c : Nat) (q : Int) (t : Bool) (d : Nat) (r : Int) : own_rv (exactProduct (.fin s c q) (.fin t d r)) = own_rv (.fin s c q) * own_rv (.fin t d r) := by
  show ((signed (s != t) (c * d) : Int) : Rat) * 2 ^ (q + r) = (((signed s c : Int) : Rat) * 2 ^ q) * (((signed t d : Int) : Rat) * 2 ^ r)
  rw [Rat.zpow_add own_2, own_sgn, own_sgn, own_sgn, Rat.natCast_mul]
  cases s <;> cases t <;> simp <;> grind
theorem own_rnd {s : Bool} {c : Nat} {q k : Int} (hk : -900 ≤ k) (hk' : k ≤ 900) (h1 : own_rv (.fin s c q) < 2 ^ k) (h2 : -2 ^ k < own_rv (.fin s c q)) :
    ∃ c' q', round b64 (.fin s c q) = .fin s c' q' ∧ own_rv (.fin s c' q') ≤ own_rv (.fin s c q) + 2 ^ (k - 54) ∧ own_rv (.fin s c q) ≤ own_rv (.fin s c' q') + 2 ^ (k - 54) := by
  have hx : (c : Rat) * 2 ^ q < 2 ^ k := by
    simp only [own_rv, own_sgn] at h1 h2
    cases s
    · exact h1
    · simp only [if_true] at h2; grind
  obtain ⟨c', q', e, r1, r2⟩ := own_ratio (s := s) (A := c) (B := 1) (e := q) (k := k) (x := (c : Rat) * 2 ^ q) (by decide) (by rw [show ((1 : Nat) : Rat) = 1 from rfl, Rat.mul_one]) hk hk' hx
  refine ⟨c', q', e, ?_⟩
  simp only [own_rv, own_sgn]
  cases s
  · exact ⟨r1, r2⟩
  · simp only [if_true]; constructor <;> grind
theorem own_whole {i : Int} {d : Datum} (h : Whole i d) : (∃ s c q, d = .fin s c q) ∧ own_rv d = i := by
  cases d with
  | nan => exact h.elim
  | inf => exact h.elim
  | fin s c q =>
    refine ⟨⟨s, c, q, rfl⟩, ?_⟩
    have h1 : ((signed s (c * 2 ^ q.toNat) : Int) : Rat) = i * ((2 ^ (-q).toNat : Nat) : Rat) := by
      rw [show signed s (c * 2 ^ q.toNat) = _ from h, Rat.intCast_mul]; rfl
    have e1 : ((signed s (c * 2 ^ q.toNat) : Int) : Rat) = (signed s c : Int) * ((2 ^ q.toNat : Nat) : Rat) := by
      rw [own_sgn, own_sgn, Rat.natCast_mul]; cases s <;> simp <;> grind
    rw [e1, own_pn, own_pn] at h1
    show ((signed s c : Int) : Rat) * 2 ^ q = i
    have h2 : ((signed s c : Int) : Rat) * 2 ^ q * 2 ^ (((-q).toNat : Nat) : Int) = i * 2 ^ (((-q).toNat : Nat) : Int) := by
      rw [Rat.mul_assoc, ← own_pa (a := ((q.toNat : Nat) : Int)) (by omega), h1]
    have pp := own_p0 (((-q).toNat : Nat) : Int)
    exact Rat.le_antisymm (Rat.le_of_mul_le_mul_right (by rw [h2]; exact Rat.le_refl) pp) (Rat.le_of_mul_le_mul_right (by rw [h2]; exact Rat.le_refl) pp)
theorem own_order (s : Bool) (c : Nat) (q : Int) (t : Bool) (d : Nat) (r : Int) : ∃ a b : Int, order (.fin s c q) (.fin t d r) = some (compare a b) ∧ (a < b ↔ own_rv (.fin s c q) < own_rv (.fin t d r)) ∧ (b < a ↔ own_rv (.fin t d r) < own_rv (.fin s c q)) := by
  refine ⟨_, _, rfl, ?_⟩
  have pp := own_p0 (min q r)
  simp only [own_rv]
  rw [← own_rvu s c (m := min q r) (by omega), ← own_rvu t d (m := min q r) (by omega), Rat.mul_lt_mul_right pp, Rat.mul_lt_mul_right pp, Rat.intCast_lt_intCast, Rat.intCast_lt_intCast]
  exact ⟨Iff.rfl, Iff.rfl⟩
theorem own_gt {s t : Bool} {c d : Nat} {q r : Int} (h : own_rv (.fin t d r) < own_rv (.fin s c q)) : order (.fin s c q) (.fin t d r) = some .gt := by
  obtain ⟨a, b, e, h1, h2⟩ := own_order s c q t d r
  have := h2.mpr h
  rw [e, compare_ite, if_neg (by omega), if_neg (by omega)]
theorem own_lts {s t : Bool} {c d : Nat} {q r : Int} (h : own_rv (.fin s c q) < own_rv (.fin t d r)) : order (.fin s c q) (.fin t d r) = some .lt := by
  obtain ⟨a, b, e, h1, h2⟩ := own_order s c q t d r
  have := h1.mpr h
  rw [e, compare_ite, if_pos this]
theorem own_eqs {s t : Bool} {c d : Nat} {q r : Int} (h : own_rv (.fin s c q) = own_rv (.fin t d r)) : order (.fin s c q) (.fin t d r) = some .eq := by
  obtain ⟨a, b, e, h1, h2⟩ := own_order s c q t d r
  have n1 : ¬ a < b := fun q => Rat.lt_irrefl (h ▸ h1.mp q)
  have n2 : ¬ b < a := fun q => Rat.lt_irrefl (h ▸ h2.mp q)
  rw [e, compare_ite, if_neg n1, if_pos (by omega)]
def own_v (a : UInt64) : Rat := own_rv (val64 a)
def own_f (a : UInt64) : Prop := ∃ s c q, val64 a = .fin s c q
def own_nr (a : UInt64) (x e : Rat) : Prop := own_f a ∧ own_v a ≤ x + e ∧ x ≤ own_v a + e
theorem own_f.nn {a : UInt64} (h : own_f a) : val64 a ≠ .nan := by obtain ⟨s, c, q, e⟩ := h; rw [e]; exact nofun
theorem own_dint {i : Int} {a : UInt64} (h : DInt i a) : own_f a ∧ own_v a = i := own_whole h
theorem own_dmul {a b : UInt64} {k : Int} (ha : own_f a) (hb : own_f b) (hk : -900 ≤ k) (hk' : k ≤ 900) (h1 : own_v a * own_v b < 2 ^ k) (h2 : -2 ^ k < own_v a * own_v b) : own_nr (dmul a b) (own_v a * own_v b) (2 ^ (k - 54)) := by
  obtain ⟨s, c, q, ea⟩ := ha
  obtain ⟨t, d, r, eb⟩ := hb
  simp only [own_nr, own_f, own_v, val64_dmul, ea, eb] at *
  rw [← own_rvmul] at h1 h2 ⊢
  obtain ⟨c', q', e, r1, r2⟩ := own_rnd (s := s != t) (c := c * d) (q := q + r) hk hk' h1 h2
  rw [show exactProduct (.fin s c q) (.fin t d r) = .fin (s != t) (c * d) (q + r) from rfl, e]
  exact ⟨⟨_, _, _, rfl⟩, r1, r2⟩
theorem own_dadd {a b : UInt64} {k : Int} (ha : own_f a) (hb : own_f b) (hk : -900 ≤ k) (hk' : k ≤ 900) (h1 : own_v a + own_v b < 2 ^ k) (h2 : -2 ^ k < own_v a + own_v b) : own_nr (dadd a b) (own_v a + own_v b) (2 ^ (k - 54)) := by
  obtain ⟨s, c, q, ea⟩ := ha
  obtain ⟨t, d, r, eb⟩ := hb
  simp only [own_nr, own_f, own_v, val64_dadd, ea, eb] at *
  rw [← own_rvsum] at h1 h2 ⊢
  obtain ⟨S, C, Q, E⟩ : ∃ S C Q, exactSum (.fin s c q) (.fin t d r) = .fin S C Q := ⟨_, _, _, rfl⟩
  rw [E] at h1 h2 ⊢
  obtain ⟨c', q', e, r1, r2⟩ := own_rnd hk hk' h1 h2
  rw [e]; exact ⟨⟨_, _, _, rfl⟩, r1, r2⟩
theorem own_dsub {a b : UInt64} {k : Int} (ha : own_f a) (hb : own_f b) (hk : -900 ≤ k) (hk' : k ≤ 900) (h1 : own_v a - own_v b < 2 ^ k) (h2 : -2 ^ k < own_v a - own_v b) : own_nr (dsub a b) (own_v a - own_v b) (2 ^ (k - 54)) := by
  obtain ⟨s, c, q, ea⟩ := ha
  obtain ⟨t, d, r, eb⟩ := hb
  simp only [own_nr, own_f, own_v, val64_dsub, ea, eb] at *
  rw [Rat.sub_eq_add_neg, ← own_rvneg, show negate (.fin t d r) = .fin (!t) d r from rfl, ← own_rvsum] at h1 h2 ⊢
  obtain ⟨S, C, Q, E⟩ : ∃ S C Q, exactSum (.fin s c q) (.fin (!t) d r) = .fin S C Q := ⟨_, _, _, rfl⟩
  rw [E] at h1 h2 ⊢
  obtain ⟨c', q', e, r1, r2⟩ := own_rnd hk hk' h1 h2
  rw [e]; exact ⟨⟨_, _, _, rfl⟩, r1, r2⟩
theorem own_ddiv {a b : UInt64} {k : Int} {x : Rat} (ha : own_f a) (hb : own_f b) (hb0 : own_v b ≠ 0) (hx : x * own_v b = own_v a) (hk : -900 ≤ k) (hk' : k ≤ 900) (h1 : x < 2 ^ k) (h2 : -2 ^ k < x) : own_nr (ddiv a b) x (2 ^ (k - 54)) := by
  obtain ⟨s, c, q, ea⟩ := ha
  obtain ⟨t, d, r, eb⟩ := hb
  simp only [own_nr, own_f, own_v, val64_ddiv, ea, eb] at *
  have hd : d ≠ 0 := by
    rintro rfl; apply hb0; simp only [own_rv, own_sgn]; rw [show ((0 : Nat) : Rat) = 0 from rfl]; cases t <;> simp
  rw [show quotient b64 (.fin s c q) (.fin t d r) = if d = 0 then (if c = 0 then .nan else .inf (s != t)) else roundRatio b64 (s != t) c d (q - r) from rfl, if_neg hd]
  have pr := own_p0 (-r)
  have hx1 : x * ((signed t d : Int) : Rat) = (signed s c : Int) * 2 ^ (q - r) := by
    simp only [own_rv] at hx
    have := congrArg (· * (2 : Rat) ^ (-r)) hx
    simp only [Rat.mul_assoc] at this
    rw [← own_pa (a := 0) (by omega), ← own_pa (a := q - r) (by omega), Rat.zpow_zero, Rat.mul_one] at this
    exact this
  rw [own_sgn, own_sgn] at hx1
  have key : ∃ y : Rat, y * d = c * 2 ^ (q - r) ∧ y < 2 ^ k ∧ x = if (s != t) then -y else y := by
    cases s <;> cases t
    · exact ⟨x, hx1, h1, rfl⟩
    · have h : x * -(d : Rat) = c * 2 ^ (q - r) := hx1
      exact ⟨-x, by grind, by grind, by simp [Rat.neg_neg]⟩
    · have h : x * (d : Rat) = -(c : Rat) * 2 ^ (q - r) := hx1
      exact ⟨-x, by grind, by grind, by simp [Rat.neg_neg]⟩
    · have h : x * -(d : Rat) = -(c : Rat) * 2 ^ (q - r) := hx1
      exact ⟨x, by grind, h1, rfl⟩
  obtain ⟨y, hy, hy1, exy⟩ := key
  obtain ⟨c', q', e, r1, r2⟩ := own_ratio (s := s != t) (A := c) (B := d) (e := q - r) (k := k) (x := y) (by omega) hy hk hk' hy1
  rw [e]
  refine ⟨⟨_, _, _, rfl⟩, ?_⟩
  simp only [own_rv, own_sgn]
  rw [exy]
  cases (s != t)
  · exact ⟨r1, r2⟩
  · simp only [if_true]; constructor <;> grind
theorem own_cmp {a b : UInt64} (ha : own_f a) (hb : own_f b) : (own_v a < own_v b → dcmp a b = some .lt) ∧ (own_v b < own_v a → dcmp a b = some .gt) ∧ (own_v a = own_v b → dcmp a b = some .eq) := by
  obtain ⟨s, c, q, ea⟩ := ha
  obtain ⟨t, d, r, eb⟩ := hb
  have e : dcmp a b = order (val64 a) (val64 b) := rfl
  simp only [e, own_v, ea, eb]
  exact ⟨own_lts, own_gt, own_eqs⟩
theorem own_sqp {a : UInt64} {k : Int} (ha : own_f a) (hk : -900 ≤ k) (hk' : k ≤ 900) (h1 : own_v a * own_v a < 2 ^ k) (h2 : -2 ^ k < own_v a * own_v a) : ∃ c q, val64 (dmul a a) = .fin false c q := by
  obtain ⟨s, c, q, ea⟩ := ha
  simp only [own_v, val64_dmul, ea] at *
  rw [← own_rvmul] at h1 h2
  obtain ⟨c', q', e, r1, r2⟩ := own_rnd (s := s != s) (c := c * c) (q := q + q) hk hk' h1 h2
  rw [show exactProduct (.fin s c q) (.fin s c q) = .fin (s != s) (c * c) (q + q) from rfl, e]
  exact ⟨c', q', by cases s <;> rfl⟩
theorem own_pos {c : Nat} {q : Int} : 0 ≤ own_rv (.fin false c q) := by
  simp only [own_rv, own_sgn]; exact Rat.mul_nonneg Rat.natCast_nonneg (Rat.le_of_lt (own_p0 q))
theorem own_addp {a b : UInt64} {k : Int} (ha : ∃ c q, val64 a = .fin false c q) (hb : ∃ c q, val64 b = .fin false c q) (hk : -900 ≤ k) (hk' : k ≤ 900) (h1 : own_v a + own_v b < 2 ^ k) (h2 : -2 ^ k < own_v a + own_v b) : 0 ≤ own_v (dadd a b) := by
  obtain ⟨c, q, ea⟩ := ha
  obtain ⟨d, r, eb⟩ := hb
  simp only [own_v, val64_dadd, ea, eb] at *
  rw [← own_rvsum] at h1 h2
  obtain ⟨v, hv, E⟩ : ∃ v : Int, 0 ≤ v ∧ exactSum (.fin false c q) (.fin false d r) = .fin (sumSign false false v) v.natAbs (min q r) :=
    ⟨sumUnits false c q false d r (min q r), by unfold sumUnits signed; simp; omega, rfl⟩
  have es : sumSign false false v = false := by unfold sumSign; split <;> simp; omega
  rw [E, es] at h1 h2 ⊢
  obtain ⟨c', q', e, r1, r2⟩ := own_rnd hk hk' h1 h2
  rw [e]; exact own_pos
theorem own_mb {a b A B : Rat} (h1 : -A ≤ a) (h2 : a ≤ A) (h3 : -B ≤ b) (h4 : b ≤ B) : a * b ≤ A * B ∧ -(A * B) ≤ a * b := by
  have p1 := Rat.mul_nonneg (a := A - a) (b := B + b) (by grind) (by grind)
  have p2 := Rat.mul_nonneg (a := A + a) (b := B - b) (by grind) (by grind)
  have p3 := Rat.mul_nonneg (a := A - a) (b := B - b) (by grind) (by grind)
  have p4 := Rat.mul_nonneg (a := A + a) (b := B + b) (by grind) (by grind)
  constructor <;> grind
theorem own_ib {x k : Int} (h1 : -k ≤ x) (h2 : x ≤ k) : -(k : Rat) ≤ x ∧ (x : Rat) ≤ k := by
  have e1 := Rat.intCast_le_intCast.mpr h1; have e2 := Rat.intCast_le_intCast.mpr h2
  rw [Rat.intCast_neg] at e1; exact ⟨e1, e2⟩
theorem own_k54 : (2 : Rat) ^ (-54 : Int) = 1 / 18014398509481984 := by decide +kernel
theorem own_k39 : (2 : Rat) ^ (15 - 54 : Int) = 1 / 549755813888 := by decide +kernel
theorem own_k38 : (2 : Rat) ^ (16 - 54 : Int) = 1 / 274877906944 := by decide +kernel
theorem own_k22 : (2 : Rat) ^ (32 - 54 : Int) = 1 / 4194304 := by decide +kernel
theorem own_k21 : (2 : Rat) ^ (33 - 54 : Int) = 1 / 2097152 := by decide +kernel
theorem own_k53 : (2 : Rat) ^ (1 - 54 : Int) = 1 / 9007199254740992 := by decide +kernel
theorem own_k0 : (2 : Rat) ^ (0 - 54 : Int) = 1 / 18014398509481984 := by decide +kernel
theorem own_q0 : (2 : Rat) ^ (0 : Int) = 1 := by decide +kernel
theorem own_q1 : (2 : Rat) ^ (1 : Int) = 2 := by decide +kernel
theorem own_q15 : (2 : Rat) ^ (15 : Int) = 32768 := by decide +kernel
theorem own_q16 : (2 : Rat) ^ (16 : Int) = 65536 := by decide +kernel
theorem own_q32 : (2 : Rat) ^ (32 : Int) = 4294967296 := by decide +kernel
theorem own_q33 : (2 : Rat) ^ (33 : Int) = 8589934592 := by decide +kernel
theorem own_off {T D P : UInt64} {t : Rat} {dx px : Int} (hT : own_nr T t (1 / 18014398509481984)) (t0 : 0 ≤ t) (t1 : t ≤ 1) (hD : DInt dx D) (hP : DInt px P) (d1 : -32767 ≤ dx) (d2 : dx ≤ 32767) (p1 : -32767 ≤ px) (p2 : px ≤ 32767) :
    own_f (dmul T D) ∧ own_f (dsub (dmul T D) P) ∧ own_f (dmul (dsub (dmul T D) P) (dsub (dmul T D) P)) ∧ (∃ c q, val64 (dmul (dsub (dmul T D) P) (dsub (dmul T D) P)) = .fin false c q) ∧
    own_v (dmul (dsub (dmul T D) P) (dsub (dmul T D) P)) ≤ (t * dx - px) * (t * dx - px) + 1 / 524288 ∧ (t * dx - px) * (t * dx - px) ≤ own_v (dmul (dsub (dmul T D) P) (dsub (dmul T D) P)) + 1 / 524288 ∧ own_v (dmul (dsub (dmul T D) P) (dsub (dmul T D) P)) < 4294967296 := by
  obtain ⟨fD, vD⟩ := own_dint hD
  obtain ⟨fP, vP⟩ := own_dint hP
  obtain ⟨fT, T1, T2⟩ := hT
  obtain ⟨dr1, dr2⟩ := own_ib (k := 32767) d1 d2
  obtain ⟨pr1, pr2⟩ := own_ib (k := 32767) p1 p2
  simp only [show ((32767 : Int) : Rat) = 32767 from rfl] at dr1 dr2 pr1 pr2
  generalize hdx : (dx : Rat) = x at *
  generalize hpx : (px : Rat) = y at *
  have b1 := own_mb (a := own_v T) (b := x) (A := 1 + 1 / 18014398509481984) (B := 32767) (by grind) (by grind) dr1 dr2
  have b2 := own_mb (a := own_v T - t) (b := x) (A := 1 / 18014398509481984) (B := 32767) (by grind) (by grind) dr1 dr2
  have b3 := own_mb (a := t) (b := x) (A := 1) (B := 32767) (by grind) (by grind) dr1 dr2
  obtain ⟨f1, m1, m2⟩ := own_dmul (k := 15) fT fD (by decide) (by decide) (by rw [vD, own_q15]; grind) (by rw [vD, own_q15]; grind)
  rw [own_k39, vD] at m1 m2
  obtain ⟨f2, n1, n2⟩ := own_dsub (k := 16) f1 fP (by decide) (by decide) (by rw [vP, own_q16]; grind) (by rw [vP, own_q16]; grind)
  rw [own_k38, vP] at n1 n2
  generalize dsub (dmul T D) P = O at *
  generalize own_v (dmul T D) = w1 at *
  generalize ho : t * x - y = o at *
  have o1 : own_v O ≤ o + 1 / 137438953472 := by grind
  have o2 : o ≤ own_v O + 1 / 137438953472 := by grind
  have o3 : -65534 ≤ o ∧ o ≤ 65534 := by constructor <;> grind
  have b4 := own_mb (a := own_v O) (b := own_v O) (A := 65535) (B := 65535) (by grind) (by grind) (by grind) (by grind)
  have b5 := own_mb (a := own_v O - o) (b := own_v O + o) (A := 1 / 137438953472) (B := 131070) (by grind) (by grind) (by grind) (by grind)
  have g1 : own_v O * own_v O < 2 ^ (32 : Int) := by rw [own_q32]; grind
  have g2 : -2 ^ (32 : Int) < own_v O * own_v O := by rw [own_q32]; grind
  obtain ⟨f3, r1, r2⟩ := own_dmul (k := 32) f2 f2 (by decide) (by decide) g1 g2
  have sq := own_sqp (k := 32) f2 (by decide) (by decide) g1 g2
  rw [own_k22] at r1 r2
  generalize own_v (dmul O O) = w3 at *
  refine ⟨f1, f2, f3, sq, ?_, ?_, ?_⟩ <;> grind
theorem own_imb {a b : Int} (h1 : -32767 ≤ a) (h2 : a ≤ 32767) (h3 : -32767 ≤ b) (h4 : b ≤ 32767) : a * b ≤ 1073676289 ∧ -1073676289 ≤ a * b := by
  have p1 := Int.mul_nonneg (a := 32767 - a) (b := 32767 + b) (by omega) (by omega)
  have p2 := Int.mul_nonneg (a := 32767 + a) (b := 32767 - b) (by omega) (by omega)
  have p3 := Int.mul_nonneg (a := 32767 - a) (b := 32767 - b) (by omega) (by omega)
  have p4 := Int.mul_nonneg (a := 32767 + a) (b := 32767 + b) (by omega) (by omega)
  constructor <;> grind
def own_b (x : Int) : Prop := -32767 ≤ x ∧ x ≤ 32767
theorem own_b.mul {x y : Int} (h : own_b x) (k : own_b y) : x * y ≤ 1073676289 ∧ -1073676289 ≤ x * y := own_imb h.1 h.2 k.1 k.2
theorem own_sq {x : Int} : 0 ≤ x * x := by
  rcases Int.le_total 0 x with h | h
  · exact Int.mul_nonneg h h
  · have := Int.mul_nonneg (a := -x) (b := -x) (by omega) (by omega); grind
theorem own_dsq {x y : Int} {A B : UInt64} (hA : DInt x A) (hB : DInt y B) (h : own_b x) (k : own_b y) : DInt (x * y) (dmul A B) := dmul_int hA hB (by have := h.mul k; omega)
theorem own_two {x y u v : Int} {A B : UInt64} (hA : DInt (x * y) A) (hB : DInt (u * v) B) (hx : own_b x) (hy : own_b y) (hu : own_b u) (hv : own_b v) : DInt (x * y + u * v) (dadd A B) := dadd_int hA hB (by have := hx.mul hy; have := hu.mul hv; omega)
/-- the quotient's value -/
theorem own_quo {dt s : Int} {A B : UInt64} {k : Int} (hA : DInt dt A) (hB : DInt s B) (hs : 0 < s) (hk : -900 ≤ k) (hk' : k ≤ 900) (h1 : (dt : Rat) < 2 ^ k * s) (h2 : -(2 ^ k * s) < (dt : Rat)) : own_nr (ddiv A B) ((dt : Rat) / s) (2 ^ (k - 54)) := by
  obtain ⟨fA, vA⟩ := own_dint hA
  obtain ⟨fB, vB⟩ := own_dint hB
  have hs' : (0 : Rat) < s := Rat.intCast_pos.mpr hs
  have hne : (s : Rat) ≠ 0 := fun q => by rw [q] at hs'; exact Rat.lt_irrefl hs'
  refine own_ddiv fA fB (by rw [vB]; exact hne) (by rw [vA, vB]; exact Rat.div_mul_cancel hne) hk hk' ?_ ?_
  · exact (Rat.div_lt_iff hs').mpr h1
  · exact (Rat.lt_div_iff hs').mpr (by rw [Rat.neg_mul]; exact h2)
theorem own_lag {a b p q t : Rat} (h : t * (a * a + b * b) = p * a + q * b) : (a * a + b * b) * ((t * a - p) * (t * a - p) + (t * b - q) * (t * b - q)) = (p * b - q * a) * (p * b - q * a) := by
  have e : (a * a + b * b) * ((t * a - p) * (t * a - p) + (t * b - q) * (t * b - q)) = (t * (a * a + b * b)) * (t * (a * a + b * b)) - 2 * (t * (a * a + b * b)) * (p * a + q * b) + (a * a + b * b) * (p * p + q * q) := by grind
  rw [e, h]; grind
theorem own_in {dx dy px py : Int} {DX DY PX PY S D : UInt64} (bx : own_b dx) (byy : own_b dy) (cx : own_b px) (cy : own_b py) (hX : DInt dx DX) (hY : DInt dy DY) (hP : DInt px PX) (hQ : DInt py PY) (hS : DInt (dx * dx + dy * dy) S) (hD : DInt (px * dx + py * dy) D)
    (h0 : 0 < px * dx + py * dy) (h1 : px * dx + py * dy < dx * dx + dy * dy) {T OX OY R : UInt64} (eT : ddiv D S = T) (eX : dsub (dmul T DX) PX = OX) (eY : dsub (dmul T DY) PY = OY) (eR : dadd (dmul OX OX) (dmul OY OY) = R) :
    own_f T ∧ 0 < own_v T ∧ own_v T < 1 ∧ own_f (dmul T DX) ∧ own_f OX ∧ own_f (dmul T DY) ∧ own_f OY ∧ own_f (dmul OX OX) ∧ own_f (dmul OY OY) ∧ own_f R ∧ 0 ≤ own_v R ∧
    ((dx * dx + dy * dy : Int) : Rat) * own_v R ≤ ((px * dy - py * dx) * (px * dy - py * dx) : Int) + ((dx * dx + dy * dy : Int) : Rat) * (1 / 16) ∧ (((px * dy - py * dx) * (px * dy - py * dx) : Int) : Rat) ≤ ((dx * dx + dy * dy : Int) : Rat) * own_v R + ((dx * dx + dy * dy : Int) : Rat) * (1 / 16) := by
  have hs : 0 < dx * dx + dy * dy := by omega
  have hs' : (0 : Rat) < (dx * dx + dy * dy : Int) := Rat.intCast_pos.mpr hs
  have h0' : (1 : Rat) ≤ (px * dx + py * dy : Int) := Rat.intCast_le_intCast.mpr (show 1 ≤ _ by omega)
  have h1' : ((px * dx + py * dy : Int) : Rat) + 1 ≤ (dx * dx + dy * dy : Int) := by
    have := Rat.intCast_le_intCast.mpr (show px * dx + py * dy + 1 ≤ dx * dx + dy * dy by omega)
    rw [Rat.intCast_add (px * dx + py * dy) 1] at this; exact this
  have hss : ((dx * dx + dy * dy : Int) : Rat) ≤ 2147352578 := Rat.intCast_le_intCast.mpr (show dx * dx + dy * dy ≤ (2147352578 : Int) by have := bx.mul bx; have := byy.mul byy; omega)
  have hq := own_quo (k := 0) hD hS hs (by decide) (by decide) (by rw [own_q0]; grind) (by rw [own_q0]; grind)
  rw [own_k0, eT] at hq
  have ets : ((px * dx + py * dy : Int) : Rat) / (dx * dx + dy * dy : Int) * (dx * dx + dy * dy : Int) = (px * dx + py * dy : Int) := Rat.div_mul_cancel (fun q => by rw [q] at hs'; exact Rat.lt_irrefl hs')
  generalize ((px * dx + py * dy : Int) : Rat) / (dx * dx + dy * dy : Int) = t at *
  have tlo : (1 : Rat) / 2147352578 ≤ t := by
    refine Rat.le_of_mul_le_mul_right (c := ((dx * dx + dy * dy : Int) : Rat)) ?_ hs'
    rw [ets]; grind
  have thi : t ≤ 1 - 1 / 2147352578 := by
    refine Rat.le_of_mul_le_mul_right (c := ((dx * dx + dy * dy : Int) : Rat)) ?_ hs'
    rw [ets]; grind
  have oX := own_off hq (by grind) (by grind) hX hP bx.1 bx.2 cx.1 cx.2
  have oY := own_off hq (by grind) (by grind) hY hQ byy.1 byy.2 cy.1 cy.2
  rw [eX] at oX; rw [eY] at oY
  obtain ⟨x1, x2, x3, x4, x5, x6, x7⟩ := oX
  obtain ⟨y1, y2, y3, y4, y5, y6, y7⟩ := oY
  have px0 : 0 ≤ own_v (dmul OX OX) := by obtain ⟨c, q, e⟩ := x4; simp only [own_v, e]; exact own_pos
  have py0 : 0 ≤ own_v (dmul OY OY) := by obtain ⟨c, q, e⟩ := y4; simp only [own_v, e]; exact own_pos
  have g1 : own_v (dmul OX OX) + own_v (dmul OY OY) < 2 ^ (33 : Int) := by rw [own_q33]; grind
  have g2 : -2 ^ (33 : Int) < own_v (dmul OX OX) + own_v (dmul OY OY) := by rw [own_q33]; grind
  obtain ⟨f3, r1, r2⟩ := own_dadd (k := 33) x3 y3 (by decide) (by decide) g1 g2
  have pos := own_addp (k := 33) x4 y4 (by decide) (by decide) g1 g2
  rw [own_k21] at r1 r2
  rw [eR] at f3 r1 r2 pos
  obtain ⟨fT, T1, T2⟩ := hq
  refine ⟨fT, by grind, by grind, x1, x2, y1, y2, x3, y3, f3, pos, ?_⟩
  have key : ((dx * dx + dy * dy : Int) : Rat) * ((t * dx - px) * (t * dx - px) + (t * dy - py) * (t * dy - py)) = ((px * dy - py * dx) * (px * dy - py * dx) : Int) := by
    simp only [Rat.intCast_add, Rat.intCast_mul, Rat.intCast_sub] at ets ⊢
    exact own_lag ets
  rw [← key]
  generalize ((dx * dx + dy * dy : Int) : Rat) = S' at *
  generalize (t * dx - px) * (t * dx - px) = U at *
  generalize (t * dy - py) * (t * dy - py) = W at *
  have e1 := Rat.mul_le_mul_of_nonneg_left (c := S') (show own_v R ≤ U + W + 1 / 16 by grind) (by grind)
  have e2 := Rat.mul_le_mul_of_nonneg_left (c := S') (show U + W ≤ own_v R + 1 / 16 by grind) (by grind)
  constructor <;> grind
theorem own_quneg {dt s : Int} {A B T : UInt64} (hA : DInt dt A) (hB : DInt s B) (hs : 0 < s) (hs2 : s ≤ 2147352578) (hd : dt < 0) (hd2 : -2147352578 ≤ dt) (e : ddiv A B = T) : own_f T ∧ own_v T < 0 := by
  have hs' : (0 : Rat) < s := Rat.intCast_pos.mpr hs
  have s1 : (1 : Rat) ≤ s := Rat.intCast_le_intCast.mpr (show (1 : Int) ≤ s by omega)
  have s2 : (s : Rat) ≤ 2147352578 := Rat.intCast_le_intCast.mpr hs2
  have d1 : (dt : Rat) ≤ -1 := Rat.intCast_le_intCast.mpr (show dt ≤ (-1 : Int) by omega)
  have d2 : (-2147352578 : Rat) ≤ dt := Rat.intCast_le_intCast.mpr hd2
  have ets : (dt : Rat) / s * s = dt := Rat.div_mul_cancel (fun q => by rw [q] at hs'; exact Rat.lt_irrefl hs')
  by_cases c : (-2 : Rat) * s < dt
  · have hq := own_quo (k := 1) hA hB hs (by decide) (by decide) (by rw [own_q1]; grind) (by rw [own_q1]; grind)
    rw [own_k53, e] at hq
    have : (dt : Rat) / s ≤ -1 / 2147352578 := by
      refine Rat.le_of_mul_le_mul_right (c := (s : Rat)) ?_ hs'
      rw [ets]; grind
    obtain ⟨f, r1, r2⟩ := hq
    exact ⟨f, by grind⟩
  · have hq := own_quo (k := 32) hA hB hs (by decide) (by decide) (by rw [own_q32]; grind) (by rw [own_q32]; grind)
    rw [own_k22, e] at hq
    have : (dt : Rat) / s ≤ -1 := by
      refine Rat.le_of_mul_le_mul_right (c := (s : Rat)) ?_ hs'
      rw [ets]; grind
    obtain ⟨f, r1, r2⟩ := hq
    exact ⟨f, by grind⟩
theorem own_qubig {dt s : Int} {A B T : UInt64} (hA : DInt dt A) (hB : DInt s B) (hs : 0 < s) (hs2 : s ≤ 2147352578) (hd : s < dt) (hd2 : dt ≤ 2147352578) (e : ddiv A B = T) : own_f T ∧ 1 < own_v T := by
  have hs' : (0 : Rat) < s := Rat.intCast_pos.mpr hs
  have s1 : (1 : Rat) ≤ s := Rat.intCast_le_intCast.mpr (show (1 : Int) ≤ s by omega)
  have s2 : (s : Rat) ≤ 2147352578 := Rat.intCast_le_intCast.mpr hs2
  have d1 : (s : Rat) + 1 ≤ dt := by
    have := Rat.intCast_le_intCast.mpr (show s + 1 ≤ dt by omega)
    rw [Rat.intCast_add] at this; exact this
  have d2 : (dt : Rat) ≤ 2147352578 := Rat.intCast_le_intCast.mpr hd2
  have ets : (dt : Rat) / s * s = dt := Rat.div_mul_cancel (fun q => by rw [q] at hs'; exact Rat.lt_irrefl hs')
  by_cases c : (dt : Rat) < 2 * s
  · have hq := own_quo (k := 1) hA hB hs (by decide) (by decide) (by rw [own_q1]; grind) (by rw [own_q1]; grind)
    rw [own_k53, e] at hq
    have : 1 + 1 / 2147352578 ≤ (dt : Rat) / s := by
      refine Rat.le_of_mul_le_mul_right (c := (s : Rat)) ?_ hs'
      rw [ets]; grind
    obtain ⟨f, r1, r2⟩ := hq
    exact ⟨f, by grind⟩
  · have hq := own_quo (k := 32) hA hB hs (by decide) (by decide) (by rw [own_q32]; grind) (by rw [own_q32]; grind)
    rw [own_k22, e] at hq
    have : 2 ≤ (dt : Rat) / s := by
      refine Rat.le_of_mul_le_mul_right (c := (s : Rat)) ?_ hs'
      rw [ets]; grind
    obtain ⟨f, r1, r2⟩ := hq
    exact ⟨f, by grind⟩
theorem own_quone {s : Int} {A B T : UInt64} (hA : DInt s A) (hB : DInt s B) (hs : 0 < s) (e : ddiv A B = T) : DInt 1 T := by
  have h1 := whole_unique good_b64 (by omega) hA hB (val64_fits A) (val64_fits B)
  unfold DInt
  rw [← e, val64_ddiv, h1]
  obtain ⟨⟨t, d, r, eb⟩, -⟩ := own_whole hB
  rw [eb]
  have hd : d ≠ 0 := fun q => by
    have := (whole_zero (show Whole s (.fin t d r) from eb ▸ hB)).mp q; omega
  show Whole 1 (if d = 0 then (if d = 0 then .nan else .inf (t != t)) else roundRatio b64 (t != t) d d (r - r))
  rw [if_neg hd, roundRatio_exact (c := 2 ^ 52) (q := -52) good_b64 (by omega) (by refine ⟨?_, ?_, ?_, ?_⟩ <;> decide) (by rw [show (r - r - -52).toNat = 52 by omega, show (-52 - (r - r)).toNat = 0 by omega]; omega)]
  cases t <;> exact (show signed false (2 ^ 52 * 2 ^ 0) = 1 * ((2 ^ 52 : Nat) : Int) by decide)
theorem own_w0 (b : Bool) (q : Int) : Whole 0 (.fin b 0 q) := by
  show signed b (0 * 2 ^ q.toNat) = 0 * _
  rw [Nat.zero_mul, Int.zero_mul]; cases b <;> rfl
theorem own_quzero {s : Int} {A B T : UInt64} (hA : DInt 0 A) (hB : DInt s B) (hs : 0 < s) (e : ddiv A B = T) : DInt 0 T := by
  obtain ⟨⟨t, d, r, eb⟩, -⟩ := own_whole hB
  obtain ⟨⟨u, c, q, ea⟩, -⟩ := own_whole hA
  have hd : d ≠ 0 := fun q => by
    have := (whole_zero (show Whole s (.fin t d r) from eb ▸ hB)).mp q; omega
  have hc : c = 0 := (whole_zero (show Whole 0 (.fin u c q) from ea ▸ hA)).mpr rfl
  unfold DInt
  rw [← e, val64_ddiv, ea, eb]
  show Whole 0 (if d = 0 then (if c = 0 then .nan else .inf (u != t)) else roundRatio b64 (u != t) c d (q - r))
  rw [if_neg hd]; unfold roundRatio; rw [if_pos hc]
  exact own_w0 _ _
theorem own_c0 : DInt 0 dconst0 := by
  have e : val64 dconst0 = .fin false 0 (-1074) := by decide +kernel
  unfold DInt; rw [e]; exact own_w0 _ _
theorem own_c1 : DInt 1 dconst1 := by
  have e : val64 dconst1 = .fin false 4503599627370496 (-52) := by decide +kernel
  unfold DInt; rw [e]; exact (show signed false (4503599627370496 * 2 ^ 0) = 1 * ((2 ^ 52 : Nat) : Int) by decide)
/-- at an end of the segment: everything is whole -/
theorem own_out {i dx dy px py : Int} {A DX DY PX PY OX OY R : UInt64} (hi : i = 0 ∨ i = 1) (bx : own_b dx) (byy : own_b dy) (cx : own_b px) (cy : own_b py) (hA : DInt i A) (hX : DInt dx DX) (hY : DInt dy DY) (hP : DInt px PX) (hQ : DInt py PY)
    (eX : dsub (dmul A DX) PX = OX) (eY : dsub (dmul A DY) PY = OY) (eR : dadd (dmul OX OX) (dmul OY OY) = R) :
    own_f (dmul A DX) ∧ own_f OX ∧ own_f (dmul A DY) ∧ own_f OY ∧ own_f (dmul OX OX) ∧ own_f (dmul OY OY) ∧ DInt ((i * dx - px) * (i * dx - px) + (i * dy - py) * (i * dy - py)) R := by
  have one : ∀ {x y : Int}, own_b x → own_b y → -65534 ≤ i * x - y ∧ i * x - y ≤ 65534 := fun {x y} h k => by
    obtain ⟨h1, h2⟩ := h; obtain ⟨k1, k2⟩ := k
    rcases hi with rfl | rfl <;> constructor <;> omega
  have sqb : ∀ {x : Int}, -65534 ≤ x → x ≤ 65534 → x * x ≤ 4294705156 := fun {x} h k => by
    have p1 := Int.mul_nonneg (a := 65534 - x) (b := 65534 + x) (by omega) (by omega); grind
  have mb : ∀ {x : Int}, own_b x → (i * x).natAbs ≤ 2 ^ 53 := fun {x} h => by
    obtain ⟨h1, h2⟩ := h
    rcases hi with rfl | rfl <;> omega
  have a1 := dmul_int hA hX (mb bx)
  have a2 := dmul_int hA hY (mb byy)
  have u1 := one bx cx
  have u2 := one byy cy
  have b1 := dsub_int a1 hP (by omega)
  have b2 := dsub_int a2 hQ (by omega)
  rw [eX] at b1; rw [eY] at b2
  have s1 := sqb u1.1 u1.2
  have s2 := sqb u2.1 u2.2
  have n1 := own_sq (x := i * dx - px)
  have n2 := own_sq (x := i * dy - py)
  have c1 := dmul_int b1 b1 (by omega)
  have c2 := dmul_int b2 b2 (by omega)
  have d1 := dadd_int c1 c2 (by omega)
  rw [eR] at d1
  exact ⟨(own_dint a1).1, (own_dint b1).1, (own_dint a2).1, (own_dint b2).1, (own_dint c1).1, (own_dint c2).1, d1⟩
theorem own_v25 : own_f 4598175219545276416 ∧ own_v 4598175219545276416 = 1 / 4 := by
  have e : val64 4598175219545276416 = .fin false 4503599627370496 (-54) := by decide +kernel
  exact ⟨⟨_, _, _, e⟩, by simp only [own_v, e]; decide +kernel⟩
theorem own_v125 : own_f 4608308318706860032 ∧ own_v 4608308318706860032 = 5 / 4 := by
  have e : val64 4608308318706860032 = .fin false 5629499534213120 (-52) := by decide +kernel
  exact ⟨⟨_, _, _, e⟩, by simp only [own_v, e]; decide +kernel⟩
/-- between the law's two fences -/
theorem own_fence {s cc lo : Int} {R L M N : UInt64} (hs : 0 < s) (fR : own_f R) (h1 : (s : Rat) * own_v R ≤ cc + (s : Rat) * (1 / 16)) (h2 : (cc : Rat) ≤ (s : Rat) * own_v R + (s : Rat) * (1 / 16)) (l1 : lo * s ≤ cc) (l2 : cc < (lo + 1) * s) (l3 : 0 ≤ lo) (l4 : lo ≤ 4000000000) (hL : DInt lo L)
    (eM : dsub L 4598175219545276416 = M) (eN : dadd L 4608308318706860032 = N) : own_f M ∧ own_f N ∧ dcmp R M = some .gt ∧ dcmp R N = some .lt := by
  obtain ⟨fL, vL⟩ := own_dint hL
  obtain ⟨f25, v25⟩ := own_v25
  obtain ⟨f125, v125⟩ := own_v125
  have hs' : (0 : Rat) < s := Rat.intCast_pos.mpr hs
  have k1 : (lo : Rat) * s ≤ cc := by have := Rat.intCast_le_intCast.mpr l1; rw [Rat.intCast_mul] at this; exact this
  have k2 : (cc : Rat) < (lo + 1) * s := by have := Rat.intCast_lt_intCast.mpr l2; rw [Rat.intCast_mul, Rat.intCast_add] at this; exact this
  have k3 : (0 : Rat) ≤ lo := Rat.intCast_le_intCast.mpr l3
  have k4 : (lo : Rat) ≤ 4000000000 := Rat.intCast_le_intCast.mpr l4
  have r1 : own_v R < lo + 1 + 1 / 16 := by
    refine Rat.lt_of_mul_lt_mul_left (c := (s : Rat)) ?_ (Rat.le_of_lt hs')
    grind
  have r2 : lo - 1 / 16 ≤ own_v R := by
    refine Rat.le_of_mul_le_mul_left (c := (s : Rat)) ?_ hs'
    grind
  obtain ⟨fM, m1, m2⟩ := own_dsub (k := 32) fL f25 (by decide) (by decide) (by rw [vL, v25, own_q32]; grind) (by rw [vL, v25, own_q32]; grind)
  obtain ⟨fN, n1, n2⟩ := own_dadd (k := 32) fL f125 (by decide) (by decide) (by rw [vL, v125, own_q32]; grind) (by rw [vL, v125, own_q32]; grind)
  rw [own_k22, vL, v25, eM] at m1 m2
  rw [own_k22, vL, v125, eN] at n1 n2
  rw [eM] at fM; rw [eN] at fN
  exact ⟨fM, fN, (own_cmp fR fM).2.1 (by grind), (own_cmp fR fN).1 (by grind)⟩
theorem own_lo {dx dy px py lo : Int} (cx : own_b px) (cy : own_b py) (hs : 0 < dx * dx + dy * dy) (e : lo = (px * dy - py * dx) * (px * dy - py * dx) / (dx * dx + dy * dy)) :
    lo * (dx * dx + dy * dy) ≤ (px * dy - py * dx) * (px * dy - py * dx) ∧ (px * dy - py * dx) * (px * dy - py * dx) < (lo + 1) * (dx * dx + dy * dy) ∧ 0 ≤ lo ∧ lo ≤ 4000000000 := by
  have hc := own_sq (x := px * dy - py * dx)
  have hd := own_sq (x := px * dx + py * dy)
  have lag : (px * dy - py * dx) * (px * dy - py * dx) + (px * dx + py * dy) * (px * dx + py * dy) = (px * px + py * py) * (dx * dx + dy * dy) := by grind
  have hp : px * px + py * py ≤ 2147352578 := by have := cx.mul cx; have := cy.mul cy; omega
  generalize (px * dy - py * dx) * (px * dy - py * dx) = cc at *
  generalize dx * dx + dy * dy = s at *
  generalize (px * dx + py * dy) * (px * dx + py * dy) = dd at *
  generalize px * px + py * py = pp at *
  subst e
  have l0 : 0 ≤ cc / s := Int.ediv_nonneg hc (by omega)
  refine ⟨Int.ediv_mul_le cc (by omega), ?_, l0, ?_⟩
  · exact Int.lt_ediv_add_one_mul_self cc hs
  · have : cc / s ≤ pp := Int.ediv_le_of_le_mul hs (by omega)
    omega
end Jvm.FP.Core
namespace Jvm.Pilot.@@N@@
open Jvm Jvm.ClassFile Sem Op Lib Jvm.Free Jvm.Stand Jvm.LawKit Jvm.RoadKit Bundle Jvm.Pilot.@@N@@.Jvm.D
/-! the rest of a walk, from a state on: it returns, and what it leaves -/
def OwnGo (p : Program) (e : Env) (below : List Frame) (s : State) (Q : Option Value → Heap → List Loc → Prop) (K N : Nat) (U : State) : Prop :=
  ∃ t o, Steps p.tables e below U t ∧ t.status = .running ∧ Ended t below o ∧ ∃ v L, o = .returned v ∧ Q v t.heap L ∧ FrameEnd s o t L K N
section OwnKit
variable {p : Program} {l : Launch} {e : Env} {R : Room} {s : State} {m : MethodId} {args : Array Value} {below : List Frame} {meth : Method} {c : Code} {T : State} {locs : List Loc} {cells slots : Nat} {Q : Option Value → Heap → List Loc → Prop} {K N : Nat} {U U' : State} {h : Heap}
theorem own_on (st : ∀ t, Steps p.tables e below U' t → Steps p.tables e below U t) (k : OwnGo p e below s Q K N U') : OwnGo p e below s Q K N U := by
  obtain ⟨t, o, h1, r⟩ := k; exact ⟨t, o, st t h1, r⟩
theorem own_tr (st : Steps p.tables e below U U') (k : OwnGo p e below s Q K N U') : OwnGo p e below s Q K N U := own_on (fun _ q => st.trans q) k
theorem own_num {c' n' : Nat} {l' : List Loc} (X : Stand p l e R s m args below meth c T locs cells slots) (h0 : locs = l') (h1 : cells = c') (h2 : slots = n') : Stand p l e R s m args below meth c T l' c' n' := by
  subst h0 h1 h2; exact X
theorem own_cast {g g' : JFrame} (q : g = g') (k : OwnGo p e below s Q K N (T.setTop g')) : OwnGo p e below s Q K N (T.setTop g) := q ▸ k
theorem own_end (X : Stand p l e R s m args below meth c T locs cells slots) (hlk : meth.locks = false) {v : Option Value} (hv : meth.sig.returnType = none → v = none) (eT : T.heap = h) (q : Q v h locs) (hk : cells ≤ K) (hn : slots ≤ N)
    (st : ∀ fs, (∀ (f : JFrame) (acts : List Action), f.method = m → f.locked = none → f.entered = [] → (doReturn e (T.setTop f) acts v).1 = T.setFrames fs) → Steps p.tables e below U (T.setFrames fs)) : OwnGo p e below s Q K N U := by
  obtain ⟨fs, hr, hrun, hended, hW, hsame⟩ := X.leave (v := v) hv hlk
  refine ⟨_, _, st fs hr, hrun, hended, v, locs, rfl, ?_, ⟨_, rfl⟩, hW, hsame.mono hk hn⟩
  have : (T.setFrames fs).heap = h := eT
  rw [this]; exact q
theorem own_retN (X : Stand p l e R s m args below meth c T locs cells slots) (hx : p.tables.exec = Jvm.exec) (hlk : meth.locks = false) {pc : Nat} {Ls : Array Slot} {z : Int32} {t : FieldType} {rest : List Value} (hret : meth.sig.returnType = some t) (ht : t = .boolean ∨ t = .byte ∨ t = .char ∨ t = .short)
    (hd : decode c.code pc = .ok (.ireturn, 1)) (eT : T.heap = h) (q : Q (some (.int (nar t z))) h locs) (hk : cells ≤ K) (hn : slots ≤ N) : OwnGo p e below s Q K N (T.setTop (mkF m pc Ls (.int z :: rest))) :=
  own_end X hlk (fun h => by rw [hret] at h; cases h) eT q hk hn fun fs hr => retN X hx hret ht hd hr
theorem own_retI (X : Stand p l e R s m args below meth c T locs cells slots) (hx : p.tables.exec = Jvm.exec) (hlk : meth.locks = false) {pc : Nat} {Ls : Array Slot} {z : Int32} {rest : List Value} (hret : meth.sig.returnType = some .int)
    (hd : decode c.code pc = .ok (.ireturn, 1)) (eT : T.heap = h) (q : Q (some (.int z)) h locs) (hk : cells ≤ K) (hn : slots ≤ N) : OwnGo p e below s Q K N (T.setTop (mkF m pc Ls (.int z :: rest))) :=
  own_end X hlk (fun h => by rw [hret] at h; cases h) eT q hk hn fun fs hr => retI X hx hret hd hr
theorem own_retA (X : Stand p l e R s m args below meth c T locs cells slots) (hx : p.tables.exec = Jvm.exec) (hlk : meth.locks = false) {pc : Nat} {Ls : Array Slot} {w : Value} {t : FieldType} {rest : List Value} (hret : meth.sig.returnType = some t) (ht : t.isReference = true) (hw : w.isRef = true)
    (hd : decode c.code pc = .ok (.areturn, 1)) (eT : T.heap = h) (q : Q (some w) h locs) (hk : cells ≤ K) (hn : slots ≤ N) : OwnGo p e below s Q K N (T.setTop (mkF m pc Ls (w :: rest))) :=
  own_end X hlk (fun h => by rw [hret] at h; cases h) eT q hk hn fun fs hr => retOut X hx hret (by rcases ref_cases hw with rfl | ⟨a, rfl⟩ <;> cases t <;> rfl) (Or.inr (Or.inr (Or.inr (Or.inr ⟨rfl, ht, hw⟩)))) hd hr
theorem own_retV (X : Stand p l e R s m args below meth c T locs cells slots) (hx : p.tables.exec = Jvm.exec) (hlk : meth.locks = false) {pc : Nat} {Ls : Array Slot} (hret : meth.sig.returnType = none)
    (hd : decode c.code pc = .ok (.return_, 1)) (eT : T.heap = h) (q : Q none h locs) (hk : cells ≤ K) (hn : slots ≤ N) : OwnGo p e below s Q K N (T.setTop (mkF m pc Ls [])) :=
  own_end X hlk (fun _ => rfl) eT q hk hn fun fs hr => X.returnOut hx hret hd hr
end OwnKit

open Jvm.FP.Core (DInt own_f own_v own_b own_c0 own_c1 own_in own_out own_quneg own_qubig own_quone own_quzero own_dsq own_two own_dint own_cmp own_sq own_fence own_lo i2d_int l2d_int own_b.mul own_f.nn)
theorem own_retD {p : Program} {l : Launch} {e : Env} {R : Room} {s : State} {m : MethodId} {args : Array Value} {below : List Frame} {meth : Method} {c : Code} {T : State} {locs : List Loc} {cells slots : Nat} {Q : Option Value → Heap → List Loc → Prop} {K N : Nat} {h : Heap} (X : Stand p l e R s m args below meth c T locs cells slots) (hx : p.tables.exec = Jvm.exec) (hlk : meth.locks = false) {pc : Nat} {Ls : Array Slot} {z : UInt64} {rest : List Value} (hret : meth.sig.returnType = some .double)
    (hd : decode c.code pc = .ok (.dreturn, 1)) (eT : T.heap = h) (q : Q (some (.double z)) h locs) (hk : cells ≤ K) (hn : slots ≤ N) : OwnGo p e below s Q K N (T.setTop (mkF m pc Ls (.double z :: rest))) :=
  own_end X hlk (fun h => by rw [hret] at h; cases h) eT q hk hn fun fs hr => retOut X hx hret rfl (Or.inr (Or.inr (Or.inl ⟨rfl, rfl, z, rfl⟩))) hd hr
theorem own_sar (u : Int32) : (u >>> (17 : Int32)).toInt = u.toInt / 131072 := by
  have e : (u >>> (17 : Int32)).toBitVec = u.toBitVec.sshiftRight 17 := rfl
  show (u >>> (17 : Int32)).toBitVec.toInt = u.toBitVec.toInt / 131072
  rw [e, BitVec.toInt_sshiftRight, Int.shiftRight_eq_div_pow]; rfl
def own_co (r : Int32) : Prop := -16384 ≤ r.toInt ∧ r.toInt ≤ 16383
def own_SD (dx dy px py : Int) (r : UInt64) : Prop := (px * dx + py * dy ≤ 0 → DInt ((0 * dx - px) * (0 * dx - px) + (0 * dy - py) * (0 * dy - py)) r) ∧ (0 < px * dx + py * dy → dx * dx + dy * dy ≤ px * dx + py * dy → DInt ((1 * dx - px) * (1 * dx - px) + (1 * dy - py) * (1 * dy - py)) r) ∧
  (0 < px * dx + py * dy → px * dx + py * dy < dx * dx + dy * dy → own_f r ∧ 0 ≤ own_v r ∧ ((dx * dx + dy * dy : Int) : Rat) * own_v r ≤ ((px * dy - py * dx) * (px * dy - py * dx) : Int) + ((dx * dx + dy * dy : Int) : Rat) * (1 / 16) ∧ (((px * dy - py * dx) * (px * dy - py * dx) : Int) : Rat) ≤ ((dx * dx + dy * dy : Int) : Rat) * own_v r + ((dx * dx + dy * dy : Int) : Rat) * (1 / 16))
def own_sd (xx yy fx fy tx ty : Int32) (r : UInt64) : Prop := own_SD (tx.toInt - fx.toInt) (ty.toInt - fy.toInt) (xx.toInt - fx.toInt) (yy.toInt - fy.toInt) r
theorem own_bb {x y : Int32} (h : own_co x) (k : own_co y) : own_b (x.toInt - y.toInt) := by
  obtain ⟨h1, h2⟩ := h; obtain ⟨k1, k2⟩ := k; constructor <;> omega
theorem own_i2 {x y : Int32} (h : own_co x) (k : own_co y) {v : UInt64} (e : FP.i2d (x - y) = v) : DInt (x.toInt - y.toInt) v := by
  have q := i2d_int (x - y)
  rw [Int32.toInt_sub, Int.bmod_eq_of_le (by have := own_bb h k; unfold own_b at this; omega) (by have := own_bb h k; unfold own_b at this; omega), show Jvm.FP.Core.i2d (x - y) = v from e] at q
  exact q
theorem own_l2 {x y : Int32} (h : own_co x) (k : own_co y) {v : Int64} (e : (x.toInt64) - (y.toInt64) = v) : v.toInt = x.toInt - y.toInt := by
  have q := own_bb h k; unfold own_b at q
  rw [← e, Int64.toInt_sub, Int32.toInt_toInt64, Int32.toInt_toInt64, Int.bmod_eq_of_le (by omega) (by omega)]
theorem own_m1 {a b : Int64} (ha : own_b a.toInt) (hb : own_b b.toInt) : (a * b).toInt = a.toInt * b.toInt := by
  have := ha.mul hb
  rw [Int64.toInt_mul, Int.bmod_eq_of_le (by omega) (by omega)]
theorem own_m2 {a b c d : Int64} (ha : own_b a.toInt) (hb : own_b b.toInt) (hc : own_b c.toInt) (hd : own_b d.toInt) : (a * b + c * d).toInt = a.toInt * b.toInt + c.toInt * d.toInt := by
  have := ha.mul hb; have := hc.mul hd
  rw [Int64.toInt_add, own_m1 ha hb, own_m1 hc hd, Int.bmod_eq_of_le (by omega) (by omega)]
theorem own_m3 {a b c d : Int64} (ha : own_b a.toInt) (hb : own_b b.toInt) (hc : own_b c.toInt) (hd : own_b d.toInt) : (a * b - c * d).toInt = a.toInt * b.toInt - c.toInt * d.toInt := by
  have := ha.mul hb; have := hc.mul hd
  rw [Int64.toInt_sub, own_m1 ha hb, own_m1 hc hd, Int.bmod_eq_of_le (by omega) (by omega)]
theorem own_bcr {a b c d : Int64} (ha : own_b a.toInt) (hb : own_b b.toInt) (hc : own_b c.toInt) (hd : own_b d.toInt) : -2147352578 ≤ a.toInt * b.toInt - c.toInt * d.toInt ∧ a.toInt * b.toInt - c.toInt * d.toInt ≤ 2147352578 := by
  have := ha.mul hb; have := hc.mul hd
  constructor <;> omega
theorem own_lodiv {c s v : Int64} (h1 : -2147352578 ≤ c.toInt) (h2 : c.toInt ≤ 2147352578) (hs : 0 < s.toInt) (e : (c * c) / s = v) : v.toInt = c.toInt * c.toInt / s.toInt := by
  have p1 := Int.mul_nonneg (a := 2147352578 - c.toInt) (b := 2147352578 + c.toInt) (by omega) (by omega)
  have hq : c.toInt * c.toInt ≤ 4700000000000000000 := by grind
  have h0 := own_sq (x := c.toInt)
  have hm : (c * c).toInt = c.toInt * c.toInt := by rw [Int64.toInt_mul, Int.bmod_eq_of_le (by omega) (by omega)]
  have d0 : 0 ≤ c.toInt * c.toInt / s.toInt := Int.ediv_nonneg h0 (by omega)
  have d1 : c.toInt * c.toInt / s.toInt ≤ c.toInt * c.toInt := Int.ediv_le_self _ h0
  rw [← e, Int64.toInt_div, hm, Int.tdiv_eq_ediv_of_nonneg h0, Int.bmod_eq_of_le (by omega) (by omega)]
theorem own_l2d {a b c d t : Int64} {g : UInt64} (h : (t).toInt = a.toInt * b.toInt + c.toInt * d.toInt) (ha : own_b a.toInt) (hb : own_b b.toInt) (hc : own_b c.toInt) (hd : own_b d.toInt) (e : FP.l2d t = g) : DInt (a.toInt * b.toInt + c.toInt * d.toInt) g := by
  have := ha.mul hb; have := hc.mul hd
  have q := l2d_int (a := t) (by rw [h]; omega)
  rw [h, show Jvm.FP.Core.l2d t = g from e] at q; exact q
theorem own_coord (v : Int32) : own_co ((v <<< ((17 : Int32) &&& 31)) >>> ((17 : Int32) &&& 31)) := by
  have h1 := Int32.le_toInt (v <<< ((17 : Int32) &&& 31)); have h2 := Int32.toInt_lt (v <<< ((17 : Int32) &&& 31))
  generalize v <<< ((17 : Int32) &&& 31) = u at *
  rw [show ((17 : Int32) &&& 31) = 17 from rfl]
  unfold own_co
  have e : (u >>> (17 : Int32)).toInt = u.toInt / 131072 := own_sar u
  rw [e]; constructor <;> omega
theorem own_d0 : DInt 0 FP.dconst0 := own_c0
theorem own_d1 : DInt 1 FP.dconst1 := own_c1
theorem own_nn {a v : UInt64} (e : a = v) (f : own_f v) : Jvm.Free.Fl.NoNaN64 a := Jvm.Free.Fl.val64_no.mpr (by rw [e]; exact f.nn)
theorem own_cv1 {x y : UInt64} (h : FP.dcmp x y = some .gt) (o : CmpOp) : cmpValue (FP.dcmp x y) o = 1 := by rw [h]; rfl
theorem own_cvm {x y : UInt64} (h : FP.dcmp x y = some .lt) (o : CmpOp) : cmpValue (FP.dcmp x y) o = -1 := by rw [h]; rfl
theorem own_cv0 {x y : UInt64} (h : FP.dcmp x y = some .eq) (o : CmpOp) : cmpValue (FP.dcmp x y) o = 0 := by rw [h]; rfl
theorem own_veq {x y : UInt64} {j : Int} (fx : own_f x) (hy : DInt j y) (h : own_v x = j) (o : CmpOp) : cmpValue (FP.dcmp x y) o = 0 := own_cv0 ((own_cmp fx (own_dint hy).1).2.2 (by rw [(own_dint hy).2]; exact h)) o
theorem own_vlt {x y : UInt64} {j : Int} (fx : own_f x) (hy : DInt j y) (h : own_v x < j) (o : CmpOp) : cmpValue (FP.dcmp x y) o = -1 := own_cvm ((own_cmp fx (own_dint hy).1).1 (by rw [(own_dint hy).2]; exact h)) o
theorem own_vgt {x y : UInt64} {j : Int} (fx : own_f x) (hy : DInt j y) (h : (j : Rat) < own_v x) (o : CmpOp) : cmpValue (FP.dcmp x y) o = 1 := own_cv1 ((own_cmp fx (own_dint hy).1).2.1 (by rw [(own_dint hy).2]; exact h)) o
theorem own_deq {x y : UInt64} {i j : Int} (hx : DInt i x) (hy : DInt j y) (h : i = j) (o : CmpOp) : cmpValue (FP.dcmp x y) o = 0 := own_veq (own_dint hx).1 hy (by rw [(own_dint hx).2, h]) o
theorem own_dlt {x y : UInt64} {i j : Int} (hx : DInt i x) (hy : DInt j y) (h : i < j) (o : CmpOp) : cmpValue (FP.dcmp x y) o = -1 := own_vlt (own_dint hx).1 hy (by rw [(own_dint hx).2]; exact Rat.intCast_lt_intCast.mpr h) o
theorem own_dgt {x y : UInt64} {i j : Int} (hx : DInt i x) (hy : DInt j y) (h : j < i) (o : CmpOp) : cmpValue (FP.dcmp x y) o = 1 := own_vgt (own_dint hx).1 hy (by rw [(own_dint hx).2]; exact Rat.intCast_lt_intCast.mpr h) o
theorem own_gt01 {x : Rat} (h : 1 < x) : ((0 : Int) : Rat) < x := by rw [Rat.intCast_zero]; grind
theorem own_pos2 {x : Rat} (h : 0 ≤ x) (k : ¬ x = 0) : ((0 : Int) : Rat) < x := by rw [Rat.intCast_zero]; grind
theorem own_sq2 {x y : Int} : 0 ≤ x * x + y * y := Int.add_nonneg own_sq own_sq
theorem own_s0 {x y p q : Int} (h : x * x + y * y = 0) : p * x + q * y = 0 := by
  have h1 := own_sq (x := x); have h2 := own_sq (x := y)
  have e1 : x * x = 0 := by omega
  have e2 : y * y = 0 := by omega
  rw [(Int.mul_eq_zero.mp e1).elim id id, (Int.mul_eq_zero.mp e2).elim id id]; omega
theorem own_five (d s : Int) : d < 0 ∨ d = 0 ∨ (0 < d ∧ d < s) ∨ d = s ∨ s < d := by omega
theorem own_lcle {a b : Int64} (h : a.toInt ≤ b.toInt) : ¬ (0 : Int32) < lcmpW a b := by
  simp only [lcmpW, Int64.lt_iff_toInt_lt]
  rw [if_neg (by omega)]; split <;> decide
theorem own_lcgt {a b : Int64} (h : b.toInt < a.toInt) : (0 : Int32) < lcmpW a b := by
  simp only [lcmpW, Int64.lt_iff_toInt_lt]; rw [if_pos h]; decide
theorem own_lcge {a b : Int64} (h : b.toInt ≤ a.toInt) : ¬ lcmpW a b < (0 : Int32) := by
  simp only [lcmpW, Int64.lt_iff_toInt_lt]
  by_cases q : b.toInt < a.toInt
  · rw [if_pos q]; decide
  · rw [if_neg q, if_pos (Int64.toInt_inj.mp (by omega))]; decide
theorem own_lclt {a b : Int64} (h : a.toInt < b.toInt) : lcmpW a b < (0 : Int32) := by
  simp only [lcmpW, Int64.lt_iff_toInt_lt]; rw [if_neg (by omega), if_neg (fun q => by rw [q] at h; omega)]; decide
theorem own_lcle0 {a : Int64} (h : a.toInt ≤ 0) : ¬ (0 : Int32) < lcmpW a 0 := own_lcle (by rw [show (0 : Int64).toInt = 0 from rfl]; exact h)
theorem own_lcgt0 {a : Int64} (h : 0 < a.toInt) : (0 : Int32) < lcmpW a 0 := own_lcgt (by rw [show (0 : Int64).toInt = 0 from rfl]; exact h)
theorem own_ne0 {a : Int64} (h : 0 < a.toInt) : a ≠ 0 := by rintro rfl; exact absurd h (by decide)
theorem own_ends0 (dx dy px py : Int) : (0 * dx - px) * (0 * dx - px) + (0 * dy - py) * (0 * dy - py) = px * px + py * py := by grind
theorem own_ends (a b c d e f : Int) : (1 * (e - c) - (a - c)) * (1 * (e - c) - (a - c)) + (1 * (f - d) - (b - d)) * (1 * (f - d) - (b - d)) = (a - e) * (a - e) + (b - f) * (b - f) := by grind
theorem w0 {a0 : Array Value} {Z : State} (hw : ∀ d ∈ tables_1, d.before a0 Z = true) : ((Jvm.Cond.methodLink "org/tempochart/observer/PointGridSquaredDistancePinLaw" (7 : Nat) ({ cls := "org/tempochart/observer/PointGridSquaredDistancePinLaw", name := "coord", desc := "(I)I" } : Jvm.MethodName)) : Jvm.Cond).before a0 Z = true := hw _ (List.mem_of_getElem? (i := 0) rfl)
theorem w1 {a0 : Array Value} {Z : State} (hw : ∀ d ∈ tables_1, d.before a0 Z = true) : ((Jvm.Cond.static ({ cls := "org/tempochart/observer/PointGridSquaredDistancePinLaw", name := "coord", desc := "(I)I" } : Jvm.MethodName)) : Jvm.Cond).before a0 Z = true := hw _ (List.mem_of_getElem? (i := 1) rfl)
theorem w2 {a0 : Array Value} {Z : State} (hw : ∀ d ∈ tables_1, d.before a0 Z = true) : ((Jvm.Cond.initialized "org/tempochart/observer/PointGridSquaredDistancePinLaw") : Jvm.Cond).before a0 Z = true := hw _ (List.mem_of_getElem? (i := 2) rfl)
theorem w3 {a0 : Array Value} {Z : State} (hw : ∀ d ∈ tables_1, d.before a0 Z = true) : ((Jvm.Cond.code ({ cls := "org/tempochart/observer/PointGridSquaredDistancePinLaw", name := "coord", desc := "(I)I" } : Jvm.MethodName) method_2_code (1 : Nat) (Option.some Jvm.ClassFile.FieldType.int)) : Jvm.Cond).before a0 Z = true := hw _ (List.mem_of_getElem? (i := 3) rfl)
theorem w4 {a0 : Array Value} {Z : State} (hw : ∀ d ∈ tables_1, d.before a0 Z = true) : ((Jvm.Cond.methodLink "org/tempochart/observer/PointGridSquaredDistancePinLaw" (13 : Nat) ({ cls := "org/tempochart/observer/PointGrid", name := "squaredDistance", desc := "(IIIIII)D" } : Jvm.MethodName)) : Jvm.Cond).before a0 Z = true := hw _ (List.mem_of_getElem? (i := 4) rfl)
theorem w5 {a0 : Array Value} {Z : State} (hw : ∀ d ∈ tables_1, d.before a0 Z = true) : ((Jvm.Cond.static ({ cls := "org/tempochart/observer/PointGrid", name := "squaredDistance", desc := "(IIIIII)D" } : Jvm.MethodName)) : Jvm.Cond).before a0 Z = true := hw _ (List.mem_of_getElem? (i := 5) rfl)
theorem w6 {a0 : Array Value} {Z : State} (hw : ∀ d ∈ tables_1, d.before a0 Z = true) : ((Jvm.Cond.initialized "org/tempochart/observer/PointGrid") : Jvm.Cond).before a0 Z = true := hw _ (List.mem_of_getElem? (i := 6) rfl)
theorem w7 {a0 : Array Value} {Z : State} (hw : ∀ d ∈ tables_1, d.before a0 Z = true) : ((Jvm.Cond.code ({ cls := "org/tempochart/observer/PointGrid", name := "squaredDistance", desc := "(IIIIII)D" } : Jvm.MethodName) prog_233_method_9_code (22 : Nat) (Option.some Jvm.ClassFile.FieldType.double)) : Jvm.Cond).before a0 Z = true := hw _ (List.mem_of_getElem? (i := 7) rfl)
theorem w8 {a0 : Array Value} {Z : State} (hw : ∀ d ∈ tables_1, d.before a0 Z = true) : ((Jvm.Cond.constantDouble "org/tempochart/observer/PointGridSquaredDistancePinLaw" (19 : Nat) (4598175219545276416 : UInt64)) : Jvm.Cond).before a0 Z = true := hw _ (List.mem_of_getElem? (i := 8) rfl)
theorem w9 {a0 : Array Value} {Z : State} (hw : ∀ d ∈ tables_1, d.before a0 Z = true) : ((Jvm.Cond.constantDouble "org/tempochart/observer/PointGridSquaredDistancePinLaw" (21 : Nat) (4608308318706860032 : UInt64)) : Jvm.Cond).before a0 Z = true := hw _ (List.mem_of_getElem? (i := 9) rfl)
theorem d1_0 : decode method_2_code 0 = .ok (.iload_n 0, 1) := by decide +kernel
theorem d1_1 : decode method_2_code 1 = .ok (.bipush 17, 2) := by decide +kernel
theorem d1_3 : decode method_2_code 3 = .ok (.ishl, 1) := by decide +kernel
theorem d1_4 : decode method_2_code 4 = .ok (.bipush 17, 2) := by decide +kernel
theorem d1_6 : decode method_2_code 6 = .ok (.ishr, 1) := by decide +kernel
theorem d1_7 : decode method_2_code 7 = .ok (.ireturn, 1) := by decide +kernel
theorem pn_0 : plainName "org/tempochart/observer/PointGridSquaredDistancePinLaw" = true := by first | (simp [plainName, overriddenIn]; done) | decide +kernel
theorem d2_0 : decode prog_233_method_9_code 0 = .ok (.iload 4, 2) := by decide +kernel
theorem d2_2 : decode prog_233_method_9_code 2 = .ok (.iload_n 2, 1) := by decide +kernel
theorem d2_3 : decode prog_233_method_9_code 3 = .ok (.isub, 1) := by decide +kernel
theorem d2_4 : decode prog_233_method_9_code 4 = .ok (.i2d, 1) := by decide +kernel
theorem d2_5 : decode prog_233_method_9_code 5 = .ok (.dstore 6, 2) := by decide +kernel
theorem d2_7 : decode prog_233_method_9_code 7 = .ok (.iload 5, 2) := by decide +kernel
theorem d2_9 : decode prog_233_method_9_code 9 = .ok (.iload_n 3, 1) := by decide +kernel
theorem d2_10 : decode prog_233_method_9_code 10 = .ok (.isub, 1) := by decide +kernel
theorem d2_11 : decode prog_233_method_9_code 11 = .ok (.i2d, 1) := by decide +kernel
theorem d2_12 : decode prog_233_method_9_code 12 = .ok (.dstore 8, 2) := by decide +kernel
theorem d2_14 : decode prog_233_method_9_code 14 = .ok (.iload_n 0, 1) := by decide +kernel
theorem d2_15 : decode prog_233_method_9_code 15 = .ok (.iload_n 2, 1) := by decide +kernel
theorem d2_16 : decode prog_233_method_9_code 16 = .ok (.isub, 1) := by decide +kernel
theorem d2_17 : decode prog_233_method_9_code 17 = .ok (.i2d, 1) := by decide +kernel
theorem d2_18 : decode prog_233_method_9_code 18 = .ok (.dstore 10, 2) := by decide +kernel
theorem d2_20 : decode prog_233_method_9_code 20 = .ok (.iload_n 1, 1) := by decide +kernel
theorem d2_21 : decode prog_233_method_9_code 21 = .ok (.iload_n 3, 1) := by decide +kernel
theorem d2_22 : decode prog_233_method_9_code 22 = .ok (.isub, 1) := by decide +kernel
theorem d2_23 : decode prog_233_method_9_code 23 = .ok (.i2d, 1) := by decide +kernel
theorem d2_24 : decode prog_233_method_9_code 24 = .ok (.dstore 12, 2) := by decide +kernel
theorem d2_26 : decode prog_233_method_9_code 26 = .ok (.dload 6, 2) := by decide +kernel
theorem d2_28 : decode prog_233_method_9_code 28 = .ok (.dload 6, 2) := by decide +kernel
theorem d2_30 : decode prog_233_method_9_code 30 = .ok (.dmul, 1) := by decide +kernel
theorem d2_31 : decode prog_233_method_9_code 31 = .ok (.dload 8, 2) := by decide +kernel
theorem d2_33 : decode prog_233_method_9_code 33 = .ok (.dload 8, 2) := by decide +kernel
theorem d2_35 : decode prog_233_method_9_code 35 = .ok (.dmul, 1) := by decide +kernel
theorem d2_36 : decode prog_233_method_9_code 36 = .ok (.dadd, 1) := by decide +kernel
theorem d2_37 : decode prog_233_method_9_code 37 = .ok (.dstore 14, 2) := by decide +kernel
theorem d2_39 : decode prog_233_method_9_code 39 = .ok (.dconst 0, 1) := by decide +kernel
theorem d2_40 : decode prog_233_method_9_code 40 = .ok (.dstore 16, 2) := by decide +kernel
theorem d2_42 : decode prog_233_method_9_code 42 = .ok (.dload 14, 2) := by decide +kernel
theorem d2_44 : decode prog_233_method_9_code 44 = .ok (.dconst 0, 1) := by decide +kernel
theorem d2_45 : decode prog_233_method_9_code 45 = .ok (.dcmp .l, 1) := by decide +kernel
theorem d2_46 : decode prog_233_method_9_code 46 = .ok (.ifCond .eq 45, 3) := by decide +kernel
theorem d2_91 : decode prog_233_method_9_code 91 = .ok (.dload 16, 2) := by decide +kernel
theorem d2_93 : decode prog_233_method_9_code 93 = .ok (.dload 6, 2) := by decide +kernel
theorem d2_95 : decode prog_233_method_9_code 95 = .ok (.dmul, 1) := by decide +kernel
theorem d2_96 : decode prog_233_method_9_code 96 = .ok (.dload 10, 2) := by decide +kernel
theorem d2_98 : decode prog_233_method_9_code 98 = .ok (.dsub, 1) := by decide +kernel
theorem d2_99 : decode prog_233_method_9_code 99 = .ok (.dstore 18, 2) := by decide +kernel
theorem d2_101 : decode prog_233_method_9_code 101 = .ok (.dload 16, 2) := by decide +kernel
theorem d2_103 : decode prog_233_method_9_code 103 = .ok (.dload 8, 2) := by decide +kernel
theorem d2_105 : decode prog_233_method_9_code 105 = .ok (.dmul, 1) := by decide +kernel
theorem d2_106 : decode prog_233_method_9_code 106 = .ok (.dload 12, 2) := by decide +kernel
theorem d2_108 : decode prog_233_method_9_code 108 = .ok (.dsub, 1) := by decide +kernel
theorem d2_109 : decode prog_233_method_9_code 109 = .ok (.dstore 20, 2) := by decide +kernel
theorem d2_111 : decode prog_233_method_9_code 111 = .ok (.dload 18, 2) := by decide +kernel
theorem d2_113 : decode prog_233_method_9_code 113 = .ok (.dload 18, 2) := by decide +kernel
theorem d2_115 : decode prog_233_method_9_code 115 = .ok (.dmul, 1) := by decide +kernel
theorem d2_116 : decode prog_233_method_9_code 116 = .ok (.dload 20, 2) := by decide +kernel
theorem d2_118 : decode prog_233_method_9_code 118 = .ok (.dload 20, 2) := by decide +kernel
theorem d2_120 : decode prog_233_method_9_code 120 = .ok (.dmul, 1) := by decide +kernel
theorem d2_121 : decode prog_233_method_9_code 121 = .ok (.dadd, 1) := by decide +kernel
theorem d2_122 : decode prog_233_method_9_code 122 = .ok (.dreturn, 1) := by decide +kernel
theorem d2_49 : decode prog_233_method_9_code 49 = .ok (.dload 10, 2) := by decide +kernel
theorem d2_51 : decode prog_233_method_9_code 51 = .ok (.dload 6, 2) := by decide +kernel
theorem d2_53 : decode prog_233_method_9_code 53 = .ok (.dmul, 1) := by decide +kernel
theorem d2_54 : decode prog_233_method_9_code 54 = .ok (.dload 12, 2) := by decide +kernel
theorem d2_56 : decode prog_233_method_9_code 56 = .ok (.dload 8, 2) := by decide +kernel
theorem d2_58 : decode prog_233_method_9_code 58 = .ok (.dmul, 1) := by decide +kernel
theorem d2_59 : decode prog_233_method_9_code 59 = .ok (.dadd, 1) := by decide +kernel
theorem d2_60 : decode prog_233_method_9_code 60 = .ok (.dload 14, 2) := by decide +kernel
theorem d2_62 : decode prog_233_method_9_code 62 = .ok (.ddiv, 1) := by decide +kernel
theorem d2_63 : decode prog_233_method_9_code 63 = .ok (.dstore 16, 2) := by decide +kernel
theorem d2_65 : decode prog_233_method_9_code 65 = .ok (.dload 16, 2) := by decide +kernel
theorem d2_67 : decode prog_233_method_9_code 67 = .ok (.dconst 0, 1) := by decide +kernel
theorem d2_68 : decode prog_233_method_9_code 68 = .ok (.dcmp .g, 1) := by decide +kernel
theorem d2_69 : decode prog_233_method_9_code 69 = .ok (.ifCond .ge 7, 3) := by decide +kernel
theorem d2_72 : decode prog_233_method_9_code 72 = .ok (.dconst 0, 1) := by decide +kernel
theorem d2_73 : decode prog_233_method_9_code 73 = .ok (.goto 16, 3) := by decide +kernel
theorem d2_89 : decode prog_233_method_9_code 89 = .ok (.dstore 16, 2) := by decide +kernel
theorem d2_76 : decode prog_233_method_9_code 76 = .ok (.dload 16, 2) := by decide +kernel
theorem d2_78 : decode prog_233_method_9_code 78 = .ok (.dconst 1, 1) := by decide +kernel
theorem d2_79 : decode prog_233_method_9_code 79 = .ok (.dcmp .l, 1) := by decide +kernel
theorem d2_80 : decode prog_233_method_9_code 80 = .ok (.ifCond .le 7, 3) := by decide +kernel
theorem d2_87 : decode prog_233_method_9_code 87 = .ok (.dload 16, 2) := by decide +kernel
theorem d2_83 : decode prog_233_method_9_code 83 = .ok (.dconst 1, 1) := by decide +kernel
theorem d2_84 : decode prog_233_method_9_code 84 = .ok (.goto 5, 3) := by decide +kernel
theorem pn_1 : plainName "org/tempochart/observer/PointGrid" = true := by first | (simp [plainName, overriddenIn]; done) | decide +kernel
theorem pd_0 : parseMethodDescriptor "(I)I" = some ⟨[.int], some .int⟩ := by decide +kernel
theorem pd_1 : parseMethodDescriptor "(IIIIII)D" = some ⟨[.int, .int, .int, .int, .int, .int], some .double⟩ := by decide +kernel
theorem ef_1 (m : MethodId) (vv : Int32)  : entryFrame m #[(.int vv)] 1 = mkF m 0 #[.val (.int vv)] [] := by first | (simp [entryFrame, mkF, argsToLocals, Value.category]; done) | rfl
def Q1 (Z : State) (vv : Int32) (h0 : Heap) (n0 : Nat) (v_ : Option Value) (h_ : Heap) (L_ : List Loc) : Prop := ∃ r : Int32, v_ = some (.int r) ∧ Fr n0 L_ ∧ h_ = h0 ∧ (own_co r)
set_option maxRecDepth 65536 in
set_option maxHeartbeats 40000000 in
theorem rm1 (l : Launch) (Z : State) (a0 : Array Value) (hw : ∀ d ∈ tables_1, d.before a0 Z = true) (ws : List Jvm.Cond) (vv : Int32) (h0 : Heap) (n0 : Nat) (Z0 : n0 ≤ h0.size)  :
    MetFree l (⟨"org/tempochart/observer/PointGridSquaredDistancePinLaw", "coord", "(I)I"⟩ : MethodName) (head1 (Jvm.Cond.code (⟨"org/tempochart/observer/PointGridSquaredDistancePinLaw", "coord", "(I)I"⟩ : MethodName) method_2_code 1 (some .int) :: ws) ({ frames := 0, cells := 0, slots := 0, locals := 0 } : Room)) (fun A_ U => A_ = #[(.int vv)] ∧ Z.Warmed39 U.vm ∧ U.heap = h0) (fun _ _ _ _ _ => True) (fun _ U_ o_ U'_ => ∃ v_ L_, o_ = .returned v_ ∧ Q1 Z vv h0 n0 v_ U'_.heap L_ ∧ FrameEnd U_ o_ U'_ L_ ({ frames := 0, cells := 0, slots := 0, locals := 0 } : Room).cells ({ frames := 0, cells := 0, slots := 0, locals := 0 } : Room).slots) := by
  refine MetFree.of_bodySF (plainFor_of_name pn_0) hisR ?_
  intro p e s m args below meth c s₁ Bd hml0 hP hK
  obtain ⟨rfl, hZ, hh⟩ := hP
  have hx := Bd.exec
  have hby := Bd.bytes
  have hml : c.maxLocals = 1 := hml0
  have hown : s.vm.findClass "org/tempochart/observer/PointGridSquaredDistancePinLaw" = some m.cls := findClass_of_methodNamed Bd.named
  have hnm := (name_of_methodNamed Bd.named Bd.method).1
  have hlk : meth.locks = false := Bd.notSynchronized
  have X0 : Stand p l e ({ frames := 0, cells := 0, slots := 0, locals := 0 } : Room) s m #[(.int vv)] below meth c s₁ [] 0 0 := Stand.of_body Bd
  have e0 : s₁.heap = h0 := by rw [← hh, Bd.state]; rfl
  have N0 := Fr.nil n0
  have K0 : Keep h0 h0 [] := Keep.refl _ _
  refine own_cast (ef_1 m vv) ?_
  show OwnGo p e below s (Q1 Z vv h0 n0) ({ frames := 0, cells := 0, slots := 0, locals := 0 } : Room).cells ({ frames := 0, cells := 0, slots := 0, locals := 0 } : Room).slots (s₁.setTop (mkF m 0 #[.val (.int vv)] []))
  refine own_on (fun t_ k_ => XS.iloadN X0.here hx rfl (hb hby d1_0) rfl k_) ?_
  show OwnGo p e below s _ _ _ (s₁.setTop (mkF m 1 #[.val (.int vv)] [(.int vv)]))
  refine own_on (fun t_ k_ => XS.bipush X0.here hx rfl (hb hby d1_1) k_) ?_
  show OwnGo p e below s _ _ _ (s₁.setTop (mkF m 3 #[.val (.int vv)] [(.int (17 : Int32)), (.int vv)]))
  refine own_on (fun t_ k_ => XS.ishl X0.here hx rfl (hb hby d1_3) rfl k_) ?_
  show OwnGo p e below s _ _ _ (s₁.setTop (mkF m 4 #[.val (.int vv)] [(.int (vv <<< ((17 : Int32) &&& 31)))]))
  refine own_on (fun t_ k_ => XS.bipush X0.here hx rfl (hb hby d1_4) k_) ?_
  show OwnGo p e below s _ _ _ (s₁.setTop (mkF m 6 #[.val (.int vv)] [(.int (17 : Int32)), (.int (vv <<< ((17 : Int32) &&& 31)))]))
  refine own_on (fun t_ k_ => XS.ishr X0.here hx rfl (hb hby d1_6) rfl k_) ?_
  show OwnGo p e below s _ _ _ (s₁.setTop (mkF m 7 #[.val (.int vv)] [(.int ((vv <<< ((17 : Int32) &&& 31)) >>> ((17 : Int32) &&& 31)))]))
  have hco : own_co ((vv <<< ((17 : Int32) &&& 31)) >>> ((17 : Int32) &&& 31)) := own_coord vv
  exact own_retI X0 hx hlk Bd.returns (hb hby d1_7) e0 ⟨((vv <<< ((17 : Int32) &&& 31)) >>> ((17 : Int32) &&& 31)), rfl, N0, rfl, hco⟩ (by decide) (by decide)
theorem ef_2 (m : MethodId) (xx : Int32) (yy : Int32) (fx : Int32) (fy : Int32) (tx : Int32) (ty : Int32)  : entryFrame m #[(.int xx), (.int yy), (.int fx), (.int fy), (.int tx), (.int ty)] 22 = mkF m 0 #[.val (.int xx), .val (.int yy), .val (.int fx), .val (.int fy), .val (.int tx), .val (.int ty), .unset, .unset, .unset, .unset, .unset, .unset, .unset, .unset, .unset, .unset, .unset, .unset, .unset, .unset, .unset, .unset] [] := by first | (simp [entryFrame, mkF, argsToLocals, Value.category]; done) | rfl
def Q2 (Z : State) (xx : Int32) (yy : Int32) (fx : Int32) (fy : Int32) (tx : Int32) (ty : Int32) (h0 : Heap) (n0 : Nat) (v_ : Option Value) (h_ : Heap) (L_ : List Loc) : Prop := ∃ r : UInt64, v_ = some (.double r) ∧ Fr n0 L_ ∧ h_ = h0 ∧ (own_sd xx yy fx fy tx ty r)
set_option maxRecDepth 65536 in
set_option maxHeartbeats 40000000 in
theorem rm2 (l : Launch) (Z : State) (a0 : Array Value) (hw : ∀ d ∈ tables_1, d.before a0 Z = true) (ws : List Jvm.Cond) (xx : Int32) (yy : Int32) (fx : Int32) (fy : Int32) (tx : Int32) (ty : Int32) (h0 : Heap) (n0 : Nat) (Z0 : n0 ≤ h0.size) (P0 : own_co xx) (P1 : own_co yy) (P2 : own_co fx) (P3 : own_co fy) (P4 : own_co tx) (P5 : own_co ty) :
    MetFree l (⟨"org/tempochart/observer/PointGrid", "squaredDistance", "(IIIIII)D"⟩ : MethodName) (head1 (Jvm.Cond.code (⟨"org/tempochart/observer/PointGrid", "squaredDistance", "(IIIIII)D"⟩ : MethodName) prog_233_method_9_code 22 (some .double) :: ws) ({ frames := 0, cells := 0, slots := 0, locals := 0 } : Room)) (fun A_ U => A_ = #[(.int xx), (.int yy), (.int fx), (.int fy), (.int tx), (.int ty)] ∧ Z.Warmed39 U.vm ∧ U.heap = h0) (fun _ _ _ _ _ => True) (fun _ U_ o_ U'_ => ∃ v_ L_, o_ = .returned v_ ∧ Q2 Z xx yy fx fy tx ty h0 n0 v_ U'_.heap L_ ∧ FrameEnd U_ o_ U'_ L_ ({ frames := 0, cells := 0, slots := 0, locals := 0 } : Room).cells ({ frames := 0, cells := 0, slots := 0, locals := 0 } : Room).slots) := by
  refine MetFree.of_bodySF (plainFor_of_name pn_1) hisR ?_
  intro p e s m args below meth c s₁ Bd hml0 hP hK
  obtain ⟨rfl, hZ, hh⟩ := hP
  have hx := Bd.exec
  have hby := Bd.bytes
  have hml : c.maxLocals = 22 := hml0
  have hown : s.vm.findClass "org/tempochart/observer/PointGrid" = some m.cls := findClass_of_methodNamed Bd.named
  have hnm := (name_of_methodNamed Bd.named Bd.method).1
  have hlk : meth.locks = false := Bd.notSynchronized
  have X0 : Stand p l e ({ frames := 0, cells := 0, slots := 0, locals := 0 } : Room) s m #[(.int xx), (.int yy), (.int fx), (.int fy), (.int tx), (.int ty)] below meth c s₁ [] 0 0 := Stand.of_body Bd
  have e0 : s₁.heap = h0 := by rw [← hh, Bd.state]; rfl
  have N0 := Fr.nil n0
  have K0 : Keep h0 h0 [] := Keep.refl _ _
  refine own_cast (ef_2 m xx yy fx fy tx ty) ?_
  show OwnGo p e below s (Q2 Z xx yy fx fy tx ty h0 n0) ({ frames := 0, cells := 0, slots := 0, locals := 0 } : Room).cells ({ frames := 0, cells := 0, slots := 0, locals := 0 } : Room).slots (s₁.setTop (mkF m 0 #[.val (.int xx), .val (.int yy), .val (.int fx), .val (.int fy), .val (.int tx), .val (.int ty), .unset, .unset, .unset, .unset, .unset, .unset, .unset, .unset, .unset, .unset, .unset, .unset, .unset, .unset, .unset, .unset] []))
  obtain ⟨dX, edX⟩ : ∃ v, FP.i2d (tx - fx) = v := ⟨_, rfl⟩
  have hdX := own_i2 P4 P2 edX
  have bdX := own_bb P4 P2
  obtain ⟨dY, edY⟩ : ∃ v, FP.i2d (ty - fy) = v := ⟨_, rfl⟩
  have hdY := own_i2 P5 P3 edY
  have bdY := own_bb P5 P3
  obtain ⟨pX, epX⟩ : ∃ v, FP.i2d (xx - fx) = v := ⟨_, rfl⟩
  have hpX := own_i2 P0 P2 epX
  have bpX := own_bb P0 P2
  obtain ⟨pY, epY⟩ : ∃ v, FP.i2d (yy - fy) = v := ⟨_, rfl⟩
  have hpY := own_i2 P1 P3 epY
  have bpY := own_bb P1 P3
  obtain ⟨aX, eaX⟩ : ∃ v, FP.dmul dX dX = v := ⟨_, rfl⟩
  have haX := own_dsq hdX hdX bdX bdX
  rw [show Jvm.FP.Core.dmul dX dX = aX from eaX] at haX
  obtain ⟨aY, eaY⟩ : ∃ v, FP.dmul dY dY = v := ⟨_, rfl⟩
  have haY := own_dsq hdY hdY bdY bdY
  rw [show Jvm.FP.Core.dmul dY dY = aY from eaY] at haY
  obtain ⟨sS, esS⟩ : ∃ v, FP.dadd aX aY = v := ⟨_, rfl⟩
  have hsS := own_two haX haY bdX bdX bdY bdY
  rw [show Jvm.FP.Core.dadd aX aY = sS from esS] at hsS
  obtain ⟨cX, ecX⟩ : ∃ v, FP.dmul pX dX = v := ⟨_, rfl⟩
  have hcX := own_dsq hpX hdX bpX bdX
  rw [show Jvm.FP.Core.dmul pX dX = cX from ecX] at hcX
  obtain ⟨cY, ecY⟩ : ∃ v, FP.dmul pY dY = v := ⟨_, rfl⟩
  have hcY := own_dsq hpY hdY bpY bdY
  rw [show Jvm.FP.Core.dmul pY dY = cY from ecY] at hcY
  obtain ⟨dD, edD⟩ : ∃ v, FP.dadd cX cY = v := ⟨_, rfl⟩
  have hdD := own_two hcX hcY bpX bdX bpY bdY
  rw [show Jvm.FP.Core.dadd cX cY = dD from edD] at hdD
  refine own_on (fun t_ k_ => XS.iload X0.here hx rfl (hb hby d2_0) rfl k_) ?_
  show OwnGo p e below s _ _ _ (s₁.setTop (mkF m 2 #[.val (.int xx), .val (.int yy), .val (.int fx), .val (.int fy), .val (.int tx), .val (.int ty), .unset, .unset, .unset, .unset, .unset, .unset, .unset, .unset, .unset, .unset, .unset, .unset, .unset, .unset, .unset, .unset] [(.int tx)]))
  refine own_on (fun t_ k_ => XS.iloadN X0.here hx rfl (hb hby d2_2) rfl k_) ?_
  show OwnGo p e below s _ _ _ (s₁.setTop (mkF m 3 #[.val (.int xx), .val (.int yy), .val (.int fx), .val (.int fy), .val (.int tx), .val (.int ty), .unset, .unset, .unset, .unset, .unset, .unset, .unset, .unset, .unset, .unset, .unset, .unset, .unset, .unset, .unset, .unset] [(.int fx), (.int tx)]))
  refine own_on (fun t_ k_ => XS.isub X0.here hx rfl (hb hby d2_3) rfl k_) ?_
  show OwnGo p e below s _ _ _ (s₁.setTop (mkF m 4 #[.val (.int xx), .val (.int yy), .val (.int fx), .val (.int fy), .val (.int tx), .val (.int ty), .unset, .unset, .unset, .unset, .unset, .unset, .unset, .unset, .unset, .unset, .unset, .unset, .unset, .unset, .unset, .unset] [(.int (tx - fx))]))
  refine own_on (fun t_ k_ => XS.i2dS X0.here hx rfl (hb hby d2_4) rfl edX k_) ?_
  show OwnGo p e below s _ _ _ (s₁.setTop (mkF m 5 #[.val (.int xx), .val (.int yy), .val (.int fx), .val (.int fy), .val (.int tx), .val (.int ty), .unset, .unset, .unset, .unset, .unset, .unset, .unset, .unset, .unset, .unset, .unset, .unset, .unset, .unset, .unset, .unset] [(.double dX)]))
  refine own_on (fun t_ k_ => XS.dstore X0.here hx rfl (hb hby d2_5) rfl (l' := #[.val (.int xx), .val (.int yy), .val (.int fx), .val (.int fy), .val (.int tx), .val (.int ty), .val (.double dX), .second, .unset, .unset, .unset, .unset, .unset, .unset, .unset, .unset, .unset, .unset, .unset, .unset, .unset, .unset]) rfl k_) ?_
  show OwnGo p e below s _ _ _ (s₁.setTop (mkF m 7 #[.val (.int xx), .val (.int yy), .val (.int fx), .val (.int fy), .val (.int tx), .val (.int ty), .val (.double dX), .second, .unset, .unset, .unset, .unset, .unset, .unset, .unset, .unset, .unset, .unset, .unset, .unset, .unset, .unset] []))
  refine own_on (fun t_ k_ => XS.iload X0.here hx rfl (hb hby d2_7) rfl k_) ?_
  show OwnGo p e below s _ _ _ (s₁.setTop (mkF m 9 #[.val (.int xx), .val (.int yy), .val (.int fx), .val (.int fy), .val (.int tx), .val (.int ty), .val (.double dX), .second, .unset, .unset, .unset, .unset, .unset, .unset, .unset, .unset, .unset, .unset, .unset, .unset, .unset, .unset] [(.int ty)]))
  refine own_on (fun t_ k_ => XS.iloadN X0.here hx rfl (hb hby d2_9) rfl k_) ?_
  show OwnGo p e below s _ _ _ (s₁.setTop (mkF m 10 #[.val (.int xx), .val (.int yy), .val (.int fx), .val (.int fy), .val (.int tx), .val (.int ty), .val (.double dX), .second, .unset, .unset, .unset, .unset, .unset, .unset, .unset, .unset, .unset, .unset, .unset, .unset, .unset, .unset] [(.int fy), (.int ty)]))
  refine own_on (fun t_ k_ => XS.isub X0.here hx rfl (hb hby d2_10) rfl k_) ?_
  show OwnGo p e below s _ _ _ (s₁.setTop (mkF m 11 #[.val (.int xx), .val (.int yy), .val (.int fx), .val (.int fy), .val (.int tx), .val (.int ty), .val (.double dX), .second, .unset, .unset, .unset, .unset, .unset, .unset, .unset, .unset, .unset, .unset, .unset, .unset, .unset, .unset] [(.int (ty - fy))]))
  refine own_on (fun t_ k_ => XS.i2dS X0.here hx rfl (hb hby d2_11) rfl edY k_) ?_
  show OwnGo p e below s _ _ _ (s₁.setTop (mkF m 12 #[.val (.int xx), .val (.int yy), .val (.int fx), .val (.int fy), .val (.int tx), .val (.int ty), .val (.double dX), .second, .unset, .unset, .unset, .unset, .unset, .unset, .unset, .unset, .unset, .unset, .unset, .unset, .unset, .unset] [(.double dY)]))
  refine own_on (fun t_ k_ => XS.dstore X0.here hx rfl (hb hby d2_12) rfl (l' := #[.val (.int xx), .val (.int yy), .val (.int fx), .val (.int fy), .val (.int tx), .val (.int ty), .val (.double dX), .second, .val (.double dY), .second, .unset, .unset, .unset, .unset, .unset, .unset, .unset, .unset, .unset, .unset, .unset, .unset]) rfl k_) ?_
  show OwnGo p e below s _ _ _ (s₁.setTop (mkF m 14 #[.val (.int xx), .val (.int yy), .val (.int fx), .val (.int fy), .val (.int tx), .val (.int ty), .val (.double dX), .second, .val (.double dY), .second, .unset, .unset, .unset, .unset, .unset, .unset, .unset, .unset, .unset, .unset, .unset, .unset] []))
  refine own_on (fun t_ k_ => XS.iloadN X0.here hx rfl (hb hby d2_14) rfl k_) ?_
  show OwnGo p e below s _ _ _ (s₁.setTop (mkF m 15 #[.val (.int xx), .val (.int yy), .val (.int fx), .val (.int fy), .val (.int tx), .val (.int ty), .val (.double dX), .second, .val (.double dY), .second, .unset, .unset, .unset, .unset, .unset, .unset, .unset, .unset, .unset, .unset, .unset, .unset] [(.int xx)]))
  refine own_on (fun t_ k_ => XS.iloadN X0.here hx rfl (hb hby d2_15) rfl k_) ?_
  show OwnGo p e below s _ _ _ (s₁.setTop (mkF m 16 #[.val (.int xx), .val (.int yy), .val (.int fx), .val (.int fy), .val (.int tx), .val (.int ty), .val (.double dX), .second, .val (.double dY), .second, .unset, .unset, .unset, .unset, .unset, .unset, .unset, .unset, .unset, .unset, .unset, .unset] [(.int fx), (.int xx)]))
  refine own_on (fun t_ k_ => XS.isub X0.here hx rfl (hb hby d2_16) rfl k_) ?_
  show OwnGo p e below s _ _ _ (s₁.setTop (mkF m 17 #[.val (.int xx), .val (.int yy), .val (.int fx), .val (.int fy), .val (.int tx), .val (.int ty), .val (.double dX), .second, .val (.double dY), .second, .unset, .unset, .unset, .unset, .unset, .unset, .unset, .unset, .unset, .unset, .unset, .unset] [(.int (xx - fx))]))
  refine own_on (fun t_ k_ => XS.i2dS X0.here hx rfl (hb hby d2_17) rfl epX k_) ?_
  show OwnGo p e below s _ _ _ (s₁.setTop (mkF m 18 #[.val (.int xx), .val (.int yy), .val (.int fx), .val (.int fy), .val (.int tx), .val (.int ty), .val (.double dX), .second, .val (.double dY), .second, .unset, .unset, .unset, .unset, .unset, .unset, .unset, .unset, .unset, .unset, .unset, .unset] [(.double pX)]))
  refine own_on (fun t_ k_ => XS.dstore X0.here hx rfl (hb hby d2_18) rfl (l' := #[.val (.int xx), .val (.int yy), .val (.int fx), .val (.int fy), .val (.int tx), .val (.int ty), .val (.double dX), .second, .val (.double dY), .second, .val (.double pX), .second, .unset, .unset, .unset, .unset, .unset, .unset, .unset, .unset, .unset, .unset]) rfl k_) ?_
  show OwnGo p e below s _ _ _ (s₁.setTop (mkF m 20 #[.val (.int xx), .val (.int yy), .val (.int fx), .val (.int fy), .val (.int tx), .val (.int ty), .val (.double dX), .second, .val (.double dY), .second, .val (.double pX), .second, .unset, .unset, .unset, .unset, .unset, .unset, .unset, .unset, .unset, .unset] []))
  refine own_on (fun t_ k_ => XS.iloadN X0.here hx rfl (hb hby d2_20) rfl k_) ?_
  show OwnGo p e below s _ _ _ (s₁.setTop (mkF m 21 #[.val (.int xx), .val (.int yy), .val (.int fx), .val (.int fy), .val (.int tx), .val (.int ty), .val (.double dX), .second, .val (.double dY), .second, .val (.double pX), .second, .unset, .unset, .unset, .unset, .unset, .unset, .unset, .unset, .unset, .unset] [(.int yy)]))
  refine own_on (fun t_ k_ => XS.iloadN X0.here hx rfl (hb hby d2_21) rfl k_) ?_
  show OwnGo p e below s _ _ _ (s₁.setTop (mkF m 22 #[.val (.int xx), .val (.int yy), .val (.int fx), .val (.int fy), .val (.int tx), .val (.int ty), .val (.double dX), .second, .val (.double dY), .second, .val (.double pX), .second, .unset, .unset, .unset, .unset, .unset, .unset, .unset, .unset, .unset, .unset] [(.int fy), (.int yy)]))
  refine own_on (fun t_ k_ => XS.isub X0.here hx rfl (hb hby d2_22) rfl k_) ?_
  show OwnGo p e below s _ _ _ (s₁.setTop (mkF m 23 #[.val (.int xx), .val (.int yy), .val (.int fx), .val (.int fy), .val (.int tx), .val (.int ty), .val (.double dX), .second, .val (.double dY), .second, .val (.double pX), .second, .unset, .unset, .unset, .unset, .unset, .unset, .unset, .unset, .unset, .unset] [(.int (yy - fy))]))
  refine own_on (fun t_ k_ => XS.i2dS X0.here hx rfl (hb hby d2_23) rfl epY k_) ?_
  show OwnGo p e below s _ _ _ (s₁.setTop (mkF m 24 #[.val (.int xx), .val (.int yy), .val (.int fx), .val (.int fy), .val (.int tx), .val (.int ty), .val (.double dX), .second, .val (.double dY), .second, .val (.double pX), .second, .unset, .unset, .unset, .unset, .unset, .unset, .unset, .unset, .unset, .unset] [(.double pY)]))
  refine own_on (fun t_ k_ => XS.dstore X0.here hx rfl (hb hby d2_24) rfl (l' := #[.val (.int xx), .val (.int yy), .val (.int fx), .val (.int fy), .val (.int tx), .val (.int ty), .val (.double dX), .second, .val (.double dY), .second, .val (.double pX), .second, .val (.double pY), .second, .unset, .unset, .unset, .unset, .unset, .unset, .unset, .unset]) rfl k_) ?_
  show OwnGo p e below s _ _ _ (s₁.setTop (mkF m 26 #[.val (.int xx), .val (.int yy), .val (.int fx), .val (.int fy), .val (.int tx), .val (.int ty), .val (.double dX), .second, .val (.double dY), .second, .val (.double pX), .second, .val (.double pY), .second, .unset, .unset, .unset, .unset, .unset, .unset, .unset, .unset] []))
  refine own_on (fun t_ k_ => XS.dload X0.here hx rfl (hb hby d2_26) rfl k_) ?_
  show OwnGo p e below s _ _ _ (s₁.setTop (mkF m 28 #[.val (.int xx), .val (.int yy), .val (.int fx), .val (.int fy), .val (.int tx), .val (.int ty), .val (.double dX), .second, .val (.double dY), .second, .val (.double pX), .second, .val (.double pY), .second, .unset, .unset, .unset, .unset, .unset, .unset, .unset, .unset] [(.double dX)]))
  refine own_on (fun t_ k_ => XS.dload X0.here hx rfl (hb hby d2_28) rfl k_) ?_
  show OwnGo p e below s _ _ _ (s₁.setTop (mkF m 30 #[.val (.int xx), .val (.int yy), .val (.int fx), .val (.int fy), .val (.int tx), .val (.int ty), .val (.double dX), .second, .val (.double dY), .second, .val (.double pX), .second, .val (.double pY), .second, .unset, .unset, .unset, .unset, .unset, .unset, .unset, .unset] [(.double dX), (.double dX)]))
  refine own_on (fun t_ k_ => XS.dmulS X0.here hx rfl (hb hby d2_30) rfl (own_nn eaX (own_dint haX).1) eaX k_) ?_
  show OwnGo p e below s _ _ _ (s₁.setTop (mkF m 31 #[.val (.int xx), .val (.int yy), .val (.int fx), .val (.int fy), .val (.int tx), .val (.int ty), .val (.double dX), .second, .val (.double dY), .second, .val (.double pX), .second, .val (.double pY), .second, .unset, .unset, .unset, .unset, .unset, .unset, .unset, .unset] [(.double aX)]))
  refine own_on (fun t_ k_ => XS.dload X0.here hx rfl (hb hby d2_31) rfl k_) ?_
  show OwnGo p e below s _ _ _ (s₁.setTop (mkF m 33 #[.val (.int xx), .val (.int yy), .val (.int fx), .val (.int fy), .val (.int tx), .val (.int ty), .val (.double dX), .second, .val (.double dY), .second, .val (.double pX), .second, .val (.double pY), .second, .unset, .unset, .unset, .unset, .unset, .unset, .unset, .unset] [(.double dY), (.double aX)]))
  refine own_on (fun t_ k_ => XS.dload X0.here hx rfl (hb hby d2_33) rfl k_) ?_
  show OwnGo p e below s _ _ _ (s₁.setTop (mkF m 35 #[.val (.int xx), .val (.int yy), .val (.int fx), .val (.int fy), .val (.int tx), .val (.int ty), .val (.double dX), .second, .val (.double dY), .second, .val (.double pX), .second, .val (.double pY), .second, .unset, .unset, .unset, .unset, .unset, .unset, .unset, .unset] [(.double dY), (.double dY), (.double aX)]))
  refine own_on (fun t_ k_ => XS.dmulS X0.here hx rfl (hb hby d2_35) rfl (own_nn eaY (own_dint haY).1) eaY k_) ?_
  show OwnGo p e below s _ _ _ (s₁.setTop (mkF m 36 #[.val (.int xx), .val (.int yy), .val (.int fx), .val (.int fy), .val (.int tx), .val (.int ty), .val (.double dX), .second, .val (.double dY), .second, .val (.double pX), .second, .val (.double pY), .second, .unset, .unset, .unset, .unset, .unset, .unset, .unset, .unset] [(.double aY), (.double aX)]))
  refine own_on (fun t_ k_ => XS.daddS X0.here hx rfl (hb hby d2_36) rfl (own_nn esS (own_dint hsS).1) esS k_) ?_
  show OwnGo p e below s _ _ _ (s₁.setTop (mkF m 37 #[.val (.int xx), .val (.int yy), .val (.int fx), .val (.int fy), .val (.int tx), .val (.int ty), .val (.double dX), .second, .val (.double dY), .second, .val (.double pX), .second, .val (.double pY), .second, .unset, .unset, .unset, .unset, .unset, .unset, .unset, .unset] [(.double sS)]))
  refine own_on (fun t_ k_ => XS.dstore X0.here hx rfl (hb hby d2_37) rfl (l' := #[.val (.int xx), .val (.int yy), .val (.int fx), .val (.int fy), .val (.int tx), .val (.int ty), .val (.double dX), .second, .val (.double dY), .second, .val (.double pX), .second, .val (.double pY), .second, .val (.double sS), .second, .unset, .unset, .unset, .unset, .unset, .unset]) rfl k_) ?_
  show OwnGo p e below s _ _ _ (s₁.setTop (mkF m 39 #[.val (.int xx), .val (.int yy), .val (.int fx), .val (.int fy), .val (.int tx), .val (.int ty), .val (.double dX), .second, .val (.double dY), .second, .val (.double pX), .second, .val (.double pY), .second, .val (.double sS), .second, .unset, .unset, .unset, .unset, .unset, .unset] []))
  refine own_on (fun t_ k_ => XS.dconst0 X0.here hx rfl (hb hby d2_39) rfl k_) ?_
  show OwnGo p e below s _ _ _ (s₁.setTop (mkF m 40 #[.val (.int xx), .val (.int yy), .val (.int fx), .val (.int fy), .val (.int tx), .val (.int ty), .val (.double dX), .second, .val (.double dY), .second, .val (.double pX), .second, .val (.double pY), .second, .val (.double sS), .second, .unset, .unset, .unset, .unset, .unset, .unset] [(.double FP.dconst0)]))
  refine own_on (fun t_ k_ => XS.dstore X0.here hx rfl (hb hby d2_40) rfl (l' := #[.val (.int xx), .val (.int yy), .val (.int fx), .val (.int fy), .val (.int tx), .val (.int ty), .val (.double dX), .second, .val (.double dY), .second, .val (.double pX), .second, .val (.double pY), .second, .val (.double sS), .second, .val (.double FP.dconst0), .second, .unset, .unset, .unset, .unset]) rfl k_) ?_
  show OwnGo p e below s _ _ _ (s₁.setTop (mkF m 42 #[.val (.int xx), .val (.int yy), .val (.int fx), .val (.int fy), .val (.int tx), .val (.int ty), .val (.double dX), .second, .val (.double dY), .second, .val (.double pX), .second, .val (.double pY), .second, .val (.double sS), .second, .val (.double FP.dconst0), .second, .unset, .unset, .unset, .unset] []))
  refine own_on (fun t_ k_ => XS.dload X0.here hx rfl (hb hby d2_42) rfl k_) ?_
  show OwnGo p e below s _ _ _ (s₁.setTop (mkF m 44 #[.val (.int xx), .val (.int yy), .val (.int fx), .val (.int fy), .val (.int tx), .val (.int ty), .val (.double dX), .second, .val (.double dY), .second, .val (.double pX), .second, .val (.double pY), .second, .val (.double sS), .second, .val (.double FP.dconst0), .second, .unset, .unset, .unset, .unset] [(.double sS)]))
  refine own_on (fun t_ k_ => XS.dconst0 X0.here hx rfl (hb hby d2_44) rfl k_) ?_
  show OwnGo p e below s _ _ _ (s₁.setTop (mkF m 45 #[.val (.int xx), .val (.int yy), .val (.int fx), .val (.int fy), .val (.int tx), .val (.int ty), .val (.double dX), .second, .val (.double dY), .second, .val (.double pX), .second, .val (.double pY), .second, .val (.double sS), .second, .val (.double FP.dconst0), .second, .unset, .unset, .unset, .unset] [(.double FP.dconst0), (.double sS)]))
  have hs0 := own_sq2 (x := (tx.toInt - fx.toInt)) (y := (ty.toInt - fy.toInt))
  by_cases hs : (tx.toInt - fx.toInt) * (tx.toInt - fx.toInt) + (ty.toInt - fy.toInt) * (ty.toInt - fy.toInt) = 0
  · have hdot := own_s0 (p := (xx.toInt - fx.toInt)) (q := (yy.toInt - fy.toInt)) hs
    refine own_on (fun t_ k_ => XS.dcmpS (v := (0 : Int32)) X0.here hx rfl (hb hby d2_45) rfl (own_deq hsS own_d0 hs _) k_) ?_
    show OwnGo p e below s _ _ _ (s₁.setTop (mkF m 46 #[.val (.int xx), .val (.int yy), .val (.int fx), .val (.int fy), .val (.int tx), .val (.int ty), .val (.double dX), .second, .val (.double dY), .second, .val (.double pX), .second, .val (.double pY), .second, .val (.double sS), .second, .val (.double FP.dconst0), .second, .unset, .unset, .unset, .unset] [(.int (0 : Int32))]))
    refine own_on (fun t_ k_ => XS.ifYes X0.here hx rfl (pc0 := 46) (pc' := 91) rfl (hb hby d2_46) rfl ((if0 _ _).trans (teq (by decide : (0 : Int32) = (0 : Int32))).1) (by decide) (by decide) k_) ?_
    show OwnGo p e below s _ _ _ (s₁.setTop (mkF m 91 #[.val (.int xx), .val (.int yy), .val (.int fx), .val (.int fy), .val (.int tx), .val (.int ty), .val (.double dX), .second, .val (.double dY), .second, .val (.double pX), .second, .val (.double pY), .second, .val (.double sS), .second, .val (.double FP.dconst0), .second, .unset, .unset, .unset, .unset] []))
    obtain ⟨oX, eoX⟩ : ∃ v, FP.dsub (FP.dmul FP.dconst0 dX) pX = v := ⟨_, rfl⟩
    obtain ⟨oY, eoY⟩ : ∃ v, FP.dsub (FP.dmul FP.dconst0 dY) pY = v := ⟨_, rfl⟩
    obtain ⟨rR, eR⟩ : ∃ v, FP.dadd (FP.dmul oX oX) (FP.dmul oY oY) = v := ⟨_, rfl⟩
    obtain ⟨g1, g2, g3, g4, g5, g6, g7⟩ := own_out (i := 0) (by decide) bdX bdY bpX bpY own_d0 hdX hdY hpX hpY eoX eoY eR
    have hsd : own_sd xx yy fx fy tx ty rR := by unfold own_sd own_SD; exact ⟨fun _ => g7, fun q => absurd q (by omega), fun q => absurd q (by omega)⟩
    refine own_on (fun t_ k_ => XS.dload X0.here hx rfl (hb hby d2_91) rfl k_) ?_
    show OwnGo p e below s _ _ _ (s₁.setTop (mkF m 93 #[.val (.int xx), .val (.int yy), .val (.int fx), .val (.int fy), .val (.int tx), .val (.int ty), .val (.double dX), .second, .val (.double dY), .second, .val (.double pX), .second, .val (.double pY), .second, .val (.double sS), .second, .val (.double FP.dconst0), .second, .unset, .unset, .unset, .unset] [(.double FP.dconst0)]))
    refine own_on (fun t_ k_ => XS.dload X0.here hx rfl (hb hby d2_93) rfl k_) ?_
    show OwnGo p e below s _ _ _ (s₁.setTop (mkF m 95 #[.val (.int xx), .val (.int yy), .val (.int fx), .val (.int fy), .val (.int tx), .val (.int ty), .val (.double dX), .second, .val (.double dY), .second, .val (.double pX), .second, .val (.double pY), .second, .val (.double sS), .second, .val (.double FP.dconst0), .second, .unset, .unset, .unset, .unset] [(.double dX), (.double FP.dconst0)]))
    refine own_on (fun t_ k_ => XS.dmulS X0.here hx rfl (hb hby d2_95) rfl (own_nn rfl g1) rfl k_) ?_
    show OwnGo p e below s _ _ _ (s₁.setTop (mkF m 96 #[.val (.int xx), .val (.int yy), .val (.int fx), .val (.int fy), .val (.int tx), .val (.int ty), .val (.double dX), .second, .val (.double dY), .second, .val (.double pX), .second, .val (.double pY), .second, .val (.double sS), .second, .val (.double FP.dconst0), .second, .unset, .unset, .unset, .unset] [(.double (FP.dmul FP.dconst0 dX))]))
    refine own_on (fun t_ k_ => XS.dload X0.here hx rfl (hb hby d2_96) rfl k_) ?_
    show OwnGo p e below s _ _ _ (s₁.setTop (mkF m 98 #[.val (.int xx), .val (.int yy), .val (.int fx), .val (.int fy), .val (.int tx), .val (.int ty), .val (.double dX), .second, .val (.double dY), .second, .val (.double pX), .second, .val (.double pY), .second, .val (.double sS), .second, .val (.double FP.dconst0), .second, .unset, .unset, .unset, .unset] [(.double pX), (.double (FP.dmul FP.dconst0 dX))]))
    refine own_on (fun t_ k_ => XS.dsubS X0.here hx rfl (hb hby d2_98) rfl (own_nn eoX g2) eoX k_) ?_
    show OwnGo p e below s _ _ _ (s₁.setTop (mkF m 99 #[.val (.int xx), .val (.int yy), .val (.int fx), .val (.int fy), .val (.int tx), .val (.int ty), .val (.double dX), .second, .val (.double dY), .second, .val (.double pX), .second, .val (.double pY), .second, .val (.double sS), .second, .val (.double FP.dconst0), .second, .unset, .unset, .unset, .unset] [(.double oX)]))
    refine own_on (fun t_ k_ => XS.dstore X0.here hx rfl (hb hby d2_99) rfl (l' := #[.val (.int xx), .val (.int yy), .val (.int fx), .val (.int fy), .val (.int tx), .val (.int ty), .val (.double dX), .second, .val (.double dY), .second, .val (.double pX), .second, .val (.double pY), .second, .val (.double sS), .second, .val (.double FP.dconst0), .second, .val (.double oX), .second, .unset, .unset]) rfl k_) ?_
    show OwnGo p e below s _ _ _ (s₁.setTop (mkF m 101 #[.val (.int xx), .val (.int yy), .val (.int fx), .val (.int fy), .val (.int tx), .val (.int ty), .val (.double dX), .second, .val (.double dY), .second, .val (.double pX), .second, .val (.double pY), .second, .val (.double sS), .second, .val (.double FP.dconst0), .second, .val (.double oX), .second, .unset, .unset] []))
    refine own_on (fun t_ k_ => XS.dload X0.here hx rfl (hb hby d2_101) rfl k_) ?_
    show OwnGo p e below s _ _ _ (s₁.setTop (mkF m 103 #[.val (.int xx), .val (.int yy), .val (.int fx), .val (.int fy), .val (.int tx), .val (.int ty), .val (.double dX), .second, .val (.double dY), .second, .val (.double pX), .second, .val (.double pY), .second, .val (.double sS), .second, .val (.double FP.dconst0), .second, .val (.double oX), .second, .unset, .unset] [(.double FP.dconst0)]))
    refine own_on (fun t_ k_ => XS.dload X0.here hx rfl (hb hby d2_103) rfl k_) ?_
    show OwnGo p e below s _ _ _ (s₁.setTop (mkF m 105 #[.val (.int xx), .val (.int yy), .val (.int fx), .val (.int fy), .val (.int tx), .val (.int ty), .val (.double dX), .second, .val (.double dY), .second, .val (.double pX), .second, .val (.double pY), .second, .val (.double sS), .second, .val (.double FP.dconst0), .second, .val (.double oX), .second, .unset, .unset] [(.double dY), (.double FP.dconst0)]))
    refine own_on (fun t_ k_ => XS.dmulS X0.here hx rfl (hb hby d2_105) rfl (own_nn rfl g3) rfl k_) ?_
    show OwnGo p e below s _ _ _ (s₁.setTop (mkF m 106 #[.val (.int xx), .val (.int yy), .val (.int fx), .val (.int fy), .val (.int tx), .val (.int ty), .val (.double dX), .second, .val (.double dY), .second, .val (.double pX), .second, .val (.double pY), .second, .val (.double sS), .second, .val (.double FP.dconst0), .second, .val (.double oX), .second, .unset, .unset] [(.double (FP.dmul FP.dconst0 dY))]))
    refine own_on (fun t_ k_ => XS.dload X0.here hx rfl (hb hby d2_106) rfl k_) ?_
    show OwnGo p e below s _ _ _ (s₁.setTop (mkF m 108 #[.val (.int xx), .val (.int yy), .val (.int fx), .val (.int fy), .val (.int tx), .val (.int ty), .val (.double dX), .second, .val (.double dY), .second, .val (.double pX), .second, .val (.double pY), .second, .val (.double sS), .second, .val (.double FP.dconst0), .second, .val (.double oX), .second, .unset, .unset] [(.double pY), (.double (FP.dmul FP.dconst0 dY))]))
    refine own_on (fun t_ k_ => XS.dsubS X0.here hx rfl (hb hby d2_108) rfl (own_nn eoY g4) eoY k_) ?_
    show OwnGo p e below s _ _ _ (s₁.setTop (mkF m 109 #[.val (.int xx), .val (.int yy), .val (.int fx), .val (.int fy), .val (.int tx), .val (.int ty), .val (.double dX), .second, .val (.double dY), .second, .val (.double pX), .second, .val (.double pY), .second, .val (.double sS), .second, .val (.double FP.dconst0), .second, .val (.double oX), .second, .unset, .unset] [(.double oY)]))
    refine own_on (fun t_ k_ => XS.dstore X0.here hx rfl (hb hby d2_109) rfl (l' := #[.val (.int xx), .val (.int yy), .val (.int fx), .val (.int fy), .val (.int tx), .val (.int ty), .val (.double dX), .second, .val (.double dY), .second, .val (.double pX), .second, .val (.double pY), .second, .val (.double sS), .second, .val (.double FP.dconst0), .second, .val (.double oX), .second, .val (.double oY), .second]) rfl k_) ?_
    show OwnGo p e below s _ _ _ (s₁.setTop (mkF m 111 #[.val (.int xx), .val (.int yy), .val (.int fx), .val (.int fy), .val (.int tx), .val (.int ty), .val (.double dX), .second, .val (.double dY), .second, .val (.double pX), .second, .val (.double pY), .second, .val (.double sS), .second, .val (.double FP.dconst0), .second, .val (.double oX), .second, .val (.double oY), .second] []))
    refine own_on (fun t_ k_ => XS.dload X0.here hx rfl (hb hby d2_111) rfl k_) ?_
    show OwnGo p e below s _ _ _ (s₁.setTop (mkF m 113 #[.val (.int xx), .val (.int yy), .val (.int fx), .val (.int fy), .val (.int tx), .val (.int ty), .val (.double dX), .second, .val (.double dY), .second, .val (.double pX), .second, .val (.double pY), .second, .val (.double sS), .second, .val (.double FP.dconst0), .second, .val (.double oX), .second, .val (.double oY), .second] [(.double oX)]))
    refine own_on (fun t_ k_ => XS.dload X0.here hx rfl (hb hby d2_113) rfl k_) ?_
    show OwnGo p e below s _ _ _ (s₁.setTop (mkF m 115 #[.val (.int xx), .val (.int yy), .val (.int fx), .val (.int fy), .val (.int tx), .val (.int ty), .val (.double dX), .second, .val (.double dY), .second, .val (.double pX), .second, .val (.double pY), .second, .val (.double sS), .second, .val (.double FP.dconst0), .second, .val (.double oX), .second, .val (.double oY), .second] [(.double oX), (.double oX)]))
    refine own_on (fun t_ k_ => XS.dmulS X0.here hx rfl (hb hby d2_115) rfl (own_nn rfl g5) rfl k_) ?_
    show OwnGo p e below s _ _ _ (s₁.setTop (mkF m 116 #[.val (.int xx), .val (.int yy), .val (.int fx), .val (.int fy), .val (.int tx), .val (.int ty), .val (.double dX), .second, .val (.double dY), .second, .val (.double pX), .second, .val (.double pY), .second, .val (.double sS), .second, .val (.double FP.dconst0), .second, .val (.double oX), .second, .val (.double oY), .second] [(.double (FP.dmul oX oX))]))
    refine own_on (fun t_ k_ => XS.dload X0.here hx rfl (hb hby d2_116) rfl k_) ?_
    show OwnGo p e below s _ _ _ (s₁.setTop (mkF m 118 #[.val (.int xx), .val (.int yy), .val (.int fx), .val (.int fy), .val (.int tx), .val (.int ty), .val (.double dX), .second, .val (.double dY), .second, .val (.double pX), .second, .val (.double pY), .second, .val (.double sS), .second, .val (.double FP.dconst0), .second, .val (.double oX), .second, .val (.double oY), .second] [(.double oY), (.double (FP.dmul oX oX))]))
    refine own_on (fun t_ k_ => XS.dload X0.here hx rfl (hb hby d2_118) rfl k_) ?_
    show OwnGo p e below s _ _ _ (s₁.setTop (mkF m 120 #[.val (.int xx), .val (.int yy), .val (.int fx), .val (.int fy), .val (.int tx), .val (.int ty), .val (.double dX), .second, .val (.double dY), .second, .val (.double pX), .second, .val (.double pY), .second, .val (.double sS), .second, .val (.double FP.dconst0), .second, .val (.double oX), .second, .val (.double oY), .second] [(.double oY), (.double oY), (.double (FP.dmul oX oX))]))
    refine own_on (fun t_ k_ => XS.dmulS X0.here hx rfl (hb hby d2_120) rfl (own_nn rfl g6) rfl k_) ?_
    show OwnGo p e below s _ _ _ (s₁.setTop (mkF m 121 #[.val (.int xx), .val (.int yy), .val (.int fx), .val (.int fy), .val (.int tx), .val (.int ty), .val (.double dX), .second, .val (.double dY), .second, .val (.double pX), .second, .val (.double pY), .second, .val (.double sS), .second, .val (.double FP.dconst0), .second, .val (.double oX), .second, .val (.double oY), .second] [(.double (FP.dmul oY oY)), (.double (FP.dmul oX oX))]))
    refine own_on (fun t_ k_ => XS.daddS X0.here hx rfl (hb hby d2_121) rfl (own_nn eR (own_dint g7).1) eR k_) ?_
    show OwnGo p e below s _ _ _ (s₁.setTop (mkF m 122 #[.val (.int xx), .val (.int yy), .val (.int fx), .val (.int fy), .val (.int tx), .val (.int ty), .val (.double dX), .second, .val (.double dY), .second, .val (.double pX), .second, .val (.double pY), .second, .val (.double sS), .second, .val (.double FP.dconst0), .second, .val (.double oX), .second, .val (.double oY), .second] [(.double rR)]))
    exact own_retD X0 hx hlk Bd.returns (hb hby d2_122) e0 ⟨rR, rfl, N0, rfl, hsd⟩ (by decide) (by decide)
  · refine own_on (fun t_ k_ => XS.dcmpS (v := (1 : Int32)) X0.here hx rfl (hb hby d2_45) rfl (own_dgt hsS own_d0 (by omega) _) k_) ?_
    show OwnGo p e below s _ _ _ (s₁.setTop (mkF m 46 #[.val (.int xx), .val (.int yy), .val (.int fx), .val (.int fy), .val (.int tx), .val (.int ty), .val (.double dX), .second, .val (.double dY), .second, .val (.double pX), .second, .val (.double pY), .second, .val (.double sS), .second, .val (.double FP.dconst0), .second, .unset, .unset, .unset, .unset] [(.int (1 : Int32))]))
    refine own_on (fun t_ k_ => XS.ifNo X0.here hx rfl (hb hby d2_46) rfl ((if0 _ _).trans (feq (by decide : ¬ ((1 : Int32) = (0 : Int32)))).1) k_) ?_
    show OwnGo p e below s _ _ _ (s₁.setTop (mkF m 49 #[.val (.int xx), .val (.int yy), .val (.int fx), .val (.int fy), .val (.int tx), .val (.int ty), .val (.double dX), .second, .val (.double dY), .second, .val (.double pX), .second, .val (.double pY), .second, .val (.double sS), .second, .val (.double FP.dconst0), .second, .unset, .unset, .unset, .unset] []))
    refine own_on (fun t_ k_ => XS.dload X0.here hx rfl (hb hby d2_49) rfl k_) ?_
    show OwnGo p e below s _ _ _ (s₁.setTop (mkF m 51 #[.val (.int xx), .val (.int yy), .val (.int fx), .val (.int fy), .val (.int tx), .val (.int ty), .val (.double dX), .second, .val (.double dY), .second, .val (.double pX), .second, .val (.double pY), .second, .val (.double sS), .second, .val (.double FP.dconst0), .second, .unset, .unset, .unset, .unset] [(.double pX)]))
    refine own_on (fun t_ k_ => XS.dload X0.here hx rfl (hb hby d2_51) rfl k_) ?_
    show OwnGo p e below s _ _ _ (s₁.setTop (mkF m 53 #[.val (.int xx), .val (.int yy), .val (.int fx), .val (.int fy), .val (.int tx), .val (.int ty), .val (.double dX), .second, .val (.double dY), .second, .val (.double pX), .second, .val (.double pY), .second, .val (.double sS), .second, .val (.double FP.dconst0), .second, .unset, .unset, .unset, .unset] [(.double dX), (.double pX)]))
    refine own_on (fun t_ k_ => XS.dmulS X0.here hx rfl (hb hby d2_53) rfl (own_nn ecX (own_dint hcX).1) ecX k_) ?_
    show OwnGo p e below s _ _ _ (s₁.setTop (mkF m 54 #[.val (.int xx), .val (.int yy), .val (.int fx), .val (.int fy), .val (.int tx), .val (.int ty), .val (.double dX), .second, .val (.double dY), .second, .val (.double pX), .second, .val (.double pY), .second, .val (.double sS), .second, .val (.double FP.dconst0), .second, .unset, .unset, .unset, .unset] [(.double cX)]))
    refine own_on (fun t_ k_ => XS.dload X0.here hx rfl (hb hby d2_54) rfl k_) ?_
    show OwnGo p e below s _ _ _ (s₁.setTop (mkF m 56 #[.val (.int xx), .val (.int yy), .val (.int fx), .val (.int fy), .val (.int tx), .val (.int ty), .val (.double dX), .second, .val (.double dY), .second, .val (.double pX), .second, .val (.double pY), .second, .val (.double sS), .second, .val (.double FP.dconst0), .second, .unset, .unset, .unset, .unset] [(.double pY), (.double cX)]))
    refine own_on (fun t_ k_ => XS.dload X0.here hx rfl (hb hby d2_56) rfl k_) ?_
    show OwnGo p e below s _ _ _ (s₁.setTop (mkF m 58 #[.val (.int xx), .val (.int yy), .val (.int fx), .val (.int fy), .val (.int tx), .val (.int ty), .val (.double dX), .second, .val (.double dY), .second, .val (.double pX), .second, .val (.double pY), .second, .val (.double sS), .second, .val (.double FP.dconst0), .second, .unset, .unset, .unset, .unset] [(.double dY), (.double pY), (.double cX)]))
    refine own_on (fun t_ k_ => XS.dmulS X0.here hx rfl (hb hby d2_58) rfl (own_nn ecY (own_dint hcY).1) ecY k_) ?_
    show OwnGo p e below s _ _ _ (s₁.setTop (mkF m 59 #[.val (.int xx), .val (.int yy), .val (.int fx), .val (.int fy), .val (.int tx), .val (.int ty), .val (.double dX), .second, .val (.double dY), .second, .val (.double pX), .second, .val (.double pY), .second, .val (.double sS), .second, .val (.double FP.dconst0), .second, .unset, .unset, .unset, .unset] [(.double cY), (.double cX)]))
    refine own_on (fun t_ k_ => XS.daddS X0.here hx rfl (hb hby d2_59) rfl (own_nn edD (own_dint hdD).1) edD k_) ?_
    show OwnGo p e below s _ _ _ (s₁.setTop (mkF m 60 #[.val (.int xx), .val (.int yy), .val (.int fx), .val (.int fy), .val (.int tx), .val (.int ty), .val (.double dX), .second, .val (.double dY), .second, .val (.double pX), .second, .val (.double pY), .second, .val (.double sS), .second, .val (.double FP.dconst0), .second, .unset, .unset, .unset, .unset] [(.double dD)]))
    refine own_on (fun t_ k_ => XS.dload X0.here hx rfl (hb hby d2_60) rfl k_) ?_
    show OwnGo p e below s _ _ _ (s₁.setTop (mkF m 62 #[.val (.int xx), .val (.int yy), .val (.int fx), .val (.int fy), .val (.int tx), .val (.int ty), .val (.double dX), .second, .val (.double dY), .second, .val (.double pX), .second, .val (.double pY), .second, .val (.double sS), .second, .val (.double FP.dconst0), .second, .unset, .unset, .unset, .unset] [(.double sS), (.double dD)]))
    have hs1 : 0 < (tx.toInt - fx.toInt) * (tx.toInt - fx.toInt) + (ty.toInt - fy.toInt) * (ty.toInt - fy.toInt) := by omega
    have hb1 := bdX.mul bdX; have hb2 := bdY.mul bdY; have hb3 := bpX.mul bdX; have hb4 := bpY.mul bdY
    obtain ⟨tT, eT⟩ : ∃ v, FP.ddiv dD sS = v := ⟨_, rfl⟩
    rcases own_five ((xx.toInt - fx.toInt) * (tx.toInt - fx.toInt) + (yy.toInt - fy.toInt) * (ty.toInt - fy.toInt)) ((tx.toInt - fx.toInt) * (tx.toInt - fx.toInt) + (ty.toInt - fy.toInt) * (ty.toInt - fy.toInt)) with hd | hd | ⟨hd0, hd1⟩ | hd | hd
    · obtain ⟨fT, vT⟩ := own_quneg hdD hsS hs1 (by omega) hd (by omega) eT
      refine own_on (fun t_ k_ => XS.ddivS X0.here hx rfl (hb hby d2_62) rfl (own_nn eT fT) eT k_) ?_
      show OwnGo p e below s _ _ _ (s₁.setTop (mkF m 63 #[.val (.int xx), .val (.int yy), .val (.int fx), .val (.int fy), .val (.int tx), .val (.int ty), .val (.double dX), .second, .val (.double dY), .second, .val (.double pX), .second, .val (.double pY), .second, .val (.double sS), .second, .val (.double FP.dconst0), .second, .unset, .unset, .unset, .unset] [(.double tT)]))
      refine own_on (fun t_ k_ => XS.dstore X0.here hx rfl (hb hby d2_63) rfl (l' := #[.val (.int xx), .val (.int yy), .val (.int fx), .val (.int fy), .val (.int tx), .val (.int ty), .val (.double dX), .second, .val (.double dY), .second, .val (.double pX), .second, .val (.double pY), .second, .val (.double sS), .second, .val (.double tT), .second, .unset, .unset, .unset, .unset]) rfl k_) ?_
      show OwnGo p e below s _ _ _ (s₁.setTop (mkF m 65 #[.val (.int xx), .val (.int yy), .val (.int fx), .val (.int fy), .val (.int tx), .val (.int ty), .val (.double dX), .second, .val (.double dY), .second, .val (.double pX), .second, .val (.double pY), .second, .val (.double sS), .second, .val (.double tT), .second, .unset, .unset, .unset, .unset] []))
      refine own_on (fun t_ k_ => XS.dload X0.here hx rfl (hb hby d2_65) rfl k_) ?_
      show OwnGo p e below s _ _ _ (s₁.setTop (mkF m 67 #[.val (.int xx), .val (.int yy), .val (.int fx), .val (.int fy), .val (.int tx), .val (.int ty), .val (.double dX), .second, .val (.double dY), .second, .val (.double pX), .second, .val (.double pY), .second, .val (.double sS), .second, .val (.double tT), .second, .unset, .unset, .unset, .unset] [(.double tT)]))
      refine own_on (fun t_ k_ => XS.dconst0 X0.here hx rfl (hb hby d2_67) rfl k_) ?_
      show OwnGo p e below s _ _ _ (s₁.setTop (mkF m 68 #[.val (.int xx), .val (.int yy), .val (.int fx), .val (.int fy), .val (.int tx), .val (.int ty), .val (.double dX), .second, .val (.double dY), .second, .val (.double pX), .second, .val (.double pY), .second, .val (.double sS), .second, .val (.double tT), .second, .unset, .unset, .unset, .unset] [(.double FP.dconst0), (.double tT)]))
      refine own_on (fun t_ k_ => XS.dcmpS (v := (-1 : Int32)) X0.here hx rfl (hb hby d2_68) rfl (own_vlt fT own_d0 vT _) k_) ?_
      show OwnGo p e below s _ _ _ (s₁.setTop (mkF m 69 #[.val (.int xx), .val (.int yy), .val (.int fx), .val (.int fy), .val (.int tx), .val (.int ty), .val (.double dX), .second, .val (.double dY), .second, .val (.double pX), .second, .val (.double pY), .second, .val (.double sS), .second, .val (.double tT), .second, .unset, .unset, .unset, .unset] [(.int (-1 : Int32))]))
      refine own_on (fun t_ k_ => XS.ifNo X0.here hx rfl (hb hby d2_69) rfl ((if0 _ _).trans (tlt (by decide : (-1 : Int32) < (0 : Int32))).2.1) k_) ?_
      show OwnGo p e below s _ _ _ (s₁.setTop (mkF m 72 #[.val (.int xx), .val (.int yy), .val (.int fx), .val (.int fy), .val (.int tx), .val (.int ty), .val (.double dX), .second, .val (.double dY), .second, .val (.double pX), .second, .val (.double pY), .second, .val (.double sS), .second, .val (.double tT), .second, .unset, .unset, .unset, .unset] []))
      refine own_on (fun t_ k_ => XS.dconst0 X0.here hx rfl (hb hby d2_72) rfl k_) ?_
      show OwnGo p e below s _ _ _ (s₁.setTop (mkF m 73 #[.val (.int xx), .val (.int yy), .val (.int fx), .val (.int fy), .val (.int tx), .val (.int ty), .val (.double dX), .second, .val (.double dY), .second, .val (.double pX), .second, .val (.double pY), .second, .val (.double sS), .second, .val (.double tT), .second, .unset, .unset, .unset, .unset] [(.double FP.dconst0)]))
      refine own_on (fun t_ k_ => XS.goto X0.here hx rfl (pc0 := 73) (pc' := 89) rfl (hb hby d2_73) (by decide) (by decide) k_) ?_
      show OwnGo p e below s _ _ _ (s₁.setTop (mkF m 89 #[.val (.int xx), .val (.int yy), .val (.int fx), .val (.int fy), .val (.int tx), .val (.int ty), .val (.double dX), .second, .val (.double dY), .second, .val (.double pX), .second, .val (.double pY), .second, .val (.double sS), .second, .val (.double tT), .second, .unset, .unset, .unset, .unset] [(.double FP.dconst0)]))
      refine own_on (fun t_ k_ => XS.dstore X0.here hx rfl (hb hby d2_89) rfl (l' := #[.val (.int xx), .val (.int yy), .val (.int fx), .val (.int fy), .val (.int tx), .val (.int ty), .val (.double dX), .second, .val (.double dY), .second, .val (.double pX), .second, .val (.double pY), .second, .val (.double sS), .second, .val (.double FP.dconst0), .second, .unset, .unset, .unset, .unset]) rfl k_) ?_
      show OwnGo p e below s _ _ _ (s₁.setTop (mkF m 91 #[.val (.int xx), .val (.int yy), .val (.int fx), .val (.int fy), .val (.int tx), .val (.int ty), .val (.double dX), .second, .val (.double dY), .second, .val (.double pX), .second, .val (.double pY), .second, .val (.double sS), .second, .val (.double FP.dconst0), .second, .unset, .unset, .unset, .unset] []))
      obtain ⟨oX, eoX⟩ : ∃ v, FP.dsub (FP.dmul FP.dconst0 dX) pX = v := ⟨_, rfl⟩
      obtain ⟨oY, eoY⟩ : ∃ v, FP.dsub (FP.dmul FP.dconst0 dY) pY = v := ⟨_, rfl⟩
      obtain ⟨rR, eR⟩ : ∃ v, FP.dadd (FP.dmul oX oX) (FP.dmul oY oY) = v := ⟨_, rfl⟩
      obtain ⟨g1, g2, g3, g4, g5, g6, g7⟩ := own_out (i := 0) (by decide) bdX bdY bpX bpY own_d0 hdX hdY hpX hpY eoX eoY eR
      have hsd : own_sd xx yy fx fy tx ty rR := by unfold own_sd own_SD; exact ⟨fun _ => g7, fun q => absurd q (by omega), fun q => absurd q (by omega)⟩
      refine own_on (fun t_ k_ => XS.dload X0.here hx rfl (hb hby d2_91) rfl k_) ?_
      show OwnGo p e below s _ _ _ (s₁.setTop (mkF m 93 #[.val (.int xx), .val (.int yy), .val (.int fx), .val (.int fy), .val (.int tx), .val (.int ty), .val (.double dX), .second, .val (.double dY), .second, .val (.double pX), .second, .val (.double pY), .second, .val (.double sS), .second, .val (.double FP.dconst0), .second, .unset, .unset, .unset, .unset] [(.double FP.dconst0)]))
      refine own_on (fun t_ k_ => XS.dload X0.here hx rfl (hb hby d2_93) rfl k_) ?_
      show OwnGo p e below s _ _ _ (s₁.setTop (mkF m 95 #[.val (.int xx), .val (.int yy), .val (.int fx), .val (.int fy), .val (.int tx), .val (.int ty), .val (.double dX), .second, .val (.double dY), .second, .val (.double pX), .second, .val (.double pY), .second, .val (.double sS), .second, .val (.double FP.dconst0), .second, .unset, .unset, .unset, .unset] [(.double dX), (.double FP.dconst0)]))
      refine own_on (fun t_ k_ => XS.dmulS X0.here hx rfl (hb hby d2_95) rfl (own_nn rfl g1) rfl k_) ?_
      show OwnGo p e below s _ _ _ (s₁.setTop (mkF m 96 #[.val (.int xx), .val (.int yy), .val (.int fx), .val (.int fy), .val (.int tx), .val (.int ty), .val (.double dX), .second, .val (.double dY), .second, .val (.double pX), .second, .val (.double pY), .second, .val (.double sS), .second, .val (.double FP.dconst0), .second, .unset, .unset, .unset, .unset] [(.double (FP.dmul FP.dconst0 dX))]))
      refine own_on (fun t_ k_ => XS.dload X0.here hx rfl (hb hby d2_96) rfl k_) ?_
      show OwnGo p e below s _ _ _ (s₁.setTop (mkF m 98 #[.val (.int xx), .val (.int yy), .val (.int fx), .val (.int fy), .val (.int tx), .val (.int ty), .val (.double dX), .second, .val (.double dY), .second, .val (.double pX), .second, .val (.double pY), .second, .val (.double sS), .second, .val (.double FP.dconst0), .second, .unset, .unset, .unset, .unset] [(.double pX), (.double (FP.dmul FP.dconst0 dX))]))
      refine own_on (fun t_ k_ => XS.dsubS X0.here hx rfl (hb hby d2_98) rfl (own_nn eoX g2) eoX k_) ?_
      show OwnGo p e below s _ _ _ (s₁.setTop (mkF m 99 #[.val (.int xx), .val (.int yy), .val (.int fx), .val (.int fy), .val (.int tx), .val (.int ty), .val (.double dX), .second, .val (.double dY), .second, .val (.double pX), .second, .val (.double pY), .second, .val (.double sS), .second, .val (.double FP.dconst0), .second, .unset, .unset, .unset, .unset] [(.double oX)]))
      refine own_on (fun t_ k_ => XS.dstore X0.here hx rfl (hb hby d2_99) rfl (l' := #[.val (.int xx), .val (.int yy), .val (.int fx), .val (.int fy), .val (.int tx), .val (.int ty), .val (.double dX), .second, .val (.double dY), .second, .val (.double pX), .second, .val (.double pY), .second, .val (.double sS), .second, .val (.double FP.dconst0), .second, .val (.double oX), .second, .unset, .unset]) rfl k_) ?_
      show OwnGo p e below s _ _ _ (s₁.setTop (mkF m 101 #[.val (.int xx), .val (.int yy), .val (.int fx), .val (.int fy), .val (.int tx), .val (.int ty), .val (.double dX), .second, .val (.double dY), .second, .val (.double pX), .second, .val (.double pY), .second, .val (.double sS), .second, .val (.double FP.dconst0), .second, .val (.double oX), .second, .unset, .unset] []))
      refine own_on (fun t_ k_ => XS.dload X0.here hx rfl (hb hby d2_101) rfl k_) ?_
      show OwnGo p e below s _ _ _ (s₁.setTop (mkF m 103 #[.val (.int xx), .val (.int yy), .val (.int fx), .val (.int fy), .val (.int tx), .val (.int ty), .val (.double dX), .second, .val (.double dY), .second, .val (.double pX), .second, .val (.double pY), .second, .val (.double sS), .second, .val (.double FP.dconst0), .second, .val (.double oX), .second, .unset, .unset] [(.double FP.dconst0)]))
      refine own_on (fun t_ k_ => XS.dload X0.here hx rfl (hb hby d2_103) rfl k_) ?_
      show OwnGo p e below s _ _ _ (s₁.setTop (mkF m 105 #[.val (.int xx), .val (.int yy), .val (.int fx), .val (.int fy), .val (.int tx), .val (.int ty), .val (.double dX), .second, .val (.double dY), .second, .val (.double pX), .second, .val (.double pY), .second, .val (.double sS), .second, .val (.double FP.dconst0), .second, .val (.double oX), .second, .unset, .unset] [(.double dY), (.double FP.dconst0)]))
      refine own_on (fun t_ k_ => XS.dmulS X0.here hx rfl (hb hby d2_105) rfl (own_nn rfl g3) rfl k_) ?_
      show OwnGo p e below s _ _ _ (s₁.setTop (mkF m 106 #[.val (.int xx), .val (.int yy), .val (.int fx), .val (.int fy), .val (.int tx), .val (.int ty), .val (.double dX), .second, .val (.double dY), .second, .val (.double pX), .second, .val (.double pY), .second, .val (.double sS), .second, .val (.double FP.dconst0), .second, .val (.double oX), .second, .unset, .unset] [(.double (FP.dmul FP.dconst0 dY))]))
      refine own_on (fun t_ k_ => XS.dload X0.here hx rfl (hb hby d2_106) rfl k_) ?_
      show OwnGo p e below s _ _ _ (s₁.setTop (mkF m 108 #[.val (.int xx), .val (.int yy), .val (.int fx), .val (.int fy), .val (.int tx), .val (.int ty), .val (.double dX), .second, .val (.double dY), .second, .val (.double pX), .second, .val (.double pY), .second, .val (.double sS), .second, .val (.double FP.dconst0), .second, .val (.double oX), .second, .unset, .unset] [(.double pY), (.double (FP.dmul FP.dconst0 dY))]))
      refine own_on (fun t_ k_ => XS.dsubS X0.here hx rfl (hb hby d2_108) rfl (own_nn eoY g4) eoY k_) ?_
      show OwnGo p e below s _ _ _ (s₁.setTop (mkF m 109 #[.val (.int xx), .val (.int yy), .val (.int fx), .val (.int fy), .val (.int tx), .val (.int ty), .val (.double dX), .second, .val (.double dY), .second, .val (.double pX), .second, .val (.double pY), .second, .val (.double sS), .second, .val (.double FP.dconst0), .second, .val (.double oX), .second, .unset, .unset] [(.double oY)]))
      refine own_on (fun t_ k_ => XS.dstore X0.here hx rfl (hb hby d2_109) rfl (l' := #[.val (.int xx), .val (.int yy), .val (.int fx), .val (.int fy), .val (.int tx), .val (.int ty), .val (.double dX), .second, .val (.double dY), .second, .val (.double pX), .second, .val (.double pY), .second, .val (.double sS), .second, .val (.double FP.dconst0), .second, .val (.double oX), .second, .val (.double oY), .second]) rfl k_) ?_
      show OwnGo p e below s _ _ _ (s₁.setTop (mkF m 111 #[.val (.int xx), .val (.int yy), .val (.int fx), .val (.int fy), .val (.int tx), .val (.int ty), .val (.double dX), .second, .val (.double dY), .second, .val (.double pX), .second, .val (.double pY), .second, .val (.double sS), .second, .val (.double FP.dconst0), .second, .val (.double oX), .second, .val (.double oY), .second] []))
      refine own_on (fun t_ k_ => XS.dload X0.here hx rfl (hb hby d2_111) rfl k_) ?_
      show OwnGo p e below s _ _ _ (s₁.setTop (mkF m 113 #[.val (.int xx), .val (.int yy), .val (.int fx), .val (.int fy), .val (.int tx), .val (.int ty), .val (.double dX), .second, .val (.double dY), .second, .val (.double pX), .second, .val (.double pY), .second, .val (.double sS), .second, .val (.double FP.dconst0), .second, .val (.double oX), .second, .val (.double oY), .second] [(.double oX)]))
      refine own_on (fun t_ k_ => XS.dload X0.here hx rfl (hb hby d2_113) rfl k_) ?_
      show OwnGo p e below s _ _ _ (s₁.setTop (mkF m 115 #[.val (.int xx), .val (.int yy), .val (.int fx), .val (.int fy), .val (.int tx), .val (.int ty), .val (.double dX), .second, .val (.double dY), .second, .val (.double pX), .second, .val (.double pY), .second, .val (.double sS), .second, .val (.double FP.dconst0), .second, .val (.double oX), .second, .val (.double oY), .second] [(.double oX), (.double oX)]))
      refine own_on (fun t_ k_ => XS.dmulS X0.here hx rfl (hb hby d2_115) rfl (own_nn rfl g5) rfl k_) ?_
      show OwnGo p e below s _ _ _ (s₁.setTop (mkF m 116 #[.val (.int xx), .val (.int yy), .val (.int fx), .val (.int fy), .val (.int tx), .val (.int ty), .val (.double dX), .second, .val (.double dY), .second, .val (.double pX), .second, .val (.double pY), .second, .val (.double sS), .second, .val (.double FP.dconst0), .second, .val (.double oX), .second, .val (.double oY), .second] [(.double (FP.dmul oX oX))]))
      refine own_on (fun t_ k_ => XS.dload X0.here hx rfl (hb hby d2_116) rfl k_) ?_
      show OwnGo p e below s _ _ _ (s₁.setTop (mkF m 118 #[.val (.int xx), .val (.int yy), .val (.int fx), .val (.int fy), .val (.int tx), .val (.int ty), .val (.double dX), .second, .val (.double dY), .second, .val (.double pX), .second, .val (.double pY), .second, .val (.double sS), .second, .val (.double FP.dconst0), .second, .val (.double oX), .second, .val (.double oY), .second] [(.double oY), (.double (FP.dmul oX oX))]))
      refine own_on (fun t_ k_ => XS.dload X0.here hx rfl (hb hby d2_118) rfl k_) ?_
      show OwnGo p e below s _ _ _ (s₁.setTop (mkF m 120 #[.val (.int xx), .val (.int yy), .val (.int fx), .val (.int fy), .val (.int tx), .val (.int ty), .val (.double dX), .second, .val (.double dY), .second, .val (.double pX), .second, .val (.double pY), .second, .val (.double sS), .second, .val (.double FP.dconst0), .second, .val (.double oX), .second, .val (.double oY), .second] [(.double oY), (.double oY), (.double (FP.dmul oX oX))]))
      refine own_on (fun t_ k_ => XS.dmulS X0.here hx rfl (hb hby d2_120) rfl (own_nn rfl g6) rfl k_) ?_
      show OwnGo p e below s _ _ _ (s₁.setTop (mkF m 121 #[.val (.int xx), .val (.int yy), .val (.int fx), .val (.int fy), .val (.int tx), .val (.int ty), .val (.double dX), .second, .val (.double dY), .second, .val (.double pX), .second, .val (.double pY), .second, .val (.double sS), .second, .val (.double FP.dconst0), .second, .val (.double oX), .second, .val (.double oY), .second] [(.double (FP.dmul oY oY)), (.double (FP.dmul oX oX))]))
      refine own_on (fun t_ k_ => XS.daddS X0.here hx rfl (hb hby d2_121) rfl (own_nn eR (own_dint g7).1) eR k_) ?_
      show OwnGo p e below s _ _ _ (s₁.setTop (mkF m 122 #[.val (.int xx), .val (.int yy), .val (.int fx), .val (.int fy), .val (.int tx), .val (.int ty), .val (.double dX), .second, .val (.double dY), .second, .val (.double pX), .second, .val (.double pY), .second, .val (.double sS), .second, .val (.double FP.dconst0), .second, .val (.double oX), .second, .val (.double oY), .second] [(.double rR)]))
      exact own_retD X0 hx hlk Bd.returns (hb hby d2_122) e0 ⟨rR, rfl, N0, rfl, hsd⟩ (by decide) (by decide)
    · have iT := own_quzero (show DInt 0 dD by rw [← hd]; exact hdD) hsS hs1 eT
      have fT := (own_dint iT).1
      refine own_on (fun t_ k_ => XS.ddivS X0.here hx rfl (hb hby d2_62) rfl (own_nn eT fT) eT k_) ?_
      show OwnGo p e below s _ _ _ (s₁.setTop (mkF m 63 #[.val (.int xx), .val (.int yy), .val (.int fx), .val (.int fy), .val (.int tx), .val (.int ty), .val (.double dX), .second, .val (.double dY), .second, .val (.double pX), .second, .val (.double pY), .second, .val (.double sS), .second, .val (.double FP.dconst0), .second, .unset, .unset, .unset, .unset] [(.double tT)]))
      refine own_on (fun t_ k_ => XS.dstore X0.here hx rfl (hb hby d2_63) rfl (l' := #[.val (.int xx), .val (.int yy), .val (.int fx), .val (.int fy), .val (.int tx), .val (.int ty), .val (.double dX), .second, .val (.double dY), .second, .val (.double pX), .second, .val (.double pY), .second, .val (.double sS), .second, .val (.double tT), .second, .unset, .unset, .unset, .unset]) rfl k_) ?_
      show OwnGo p e below s _ _ _ (s₁.setTop (mkF m 65 #[.val (.int xx), .val (.int yy), .val (.int fx), .val (.int fy), .val (.int tx), .val (.int ty), .val (.double dX), .second, .val (.double dY), .second, .val (.double pX), .second, .val (.double pY), .second, .val (.double sS), .second, .val (.double tT), .second, .unset, .unset, .unset, .unset] []))
      refine own_on (fun t_ k_ => XS.dload X0.here hx rfl (hb hby d2_65) rfl k_) ?_
      show OwnGo p e below s _ _ _ (s₁.setTop (mkF m 67 #[.val (.int xx), .val (.int yy), .val (.int fx), .val (.int fy), .val (.int tx), .val (.int ty), .val (.double dX), .second, .val (.double dY), .second, .val (.double pX), .second, .val (.double pY), .second, .val (.double sS), .second, .val (.double tT), .second, .unset, .unset, .unset, .unset] [(.double tT)]))
      refine own_on (fun t_ k_ => XS.dconst0 X0.here hx rfl (hb hby d2_67) rfl k_) ?_
      show OwnGo p e below s _ _ _ (s₁.setTop (mkF m 68 #[.val (.int xx), .val (.int yy), .val (.int fx), .val (.int fy), .val (.int tx), .val (.int ty), .val (.double dX), .second, .val (.double dY), .second, .val (.double pX), .second, .val (.double pY), .second, .val (.double sS), .second, .val (.double tT), .second, .unset, .unset, .unset, .unset] [(.double FP.dconst0), (.double tT)]))
      refine own_on (fun t_ k_ => XS.dcmpS (v := (0 : Int32)) X0.here hx rfl (hb hby d2_68) rfl (own_deq iT own_d0 rfl _) k_) ?_
      show OwnGo p e below s _ _ _ (s₁.setTop (mkF m 69 #[.val (.int xx), .val (.int yy), .val (.int fx), .val (.int fy), .val (.int tx), .val (.int ty), .val (.double dX), .second, .val (.double dY), .second, .val (.double pX), .second, .val (.double pY), .second, .val (.double sS), .second, .val (.double tT), .second, .unset, .unset, .unset, .unset] [(.int (0 : Int32))]))
      refine own_on (fun t_ k_ => XS.ifYes X0.here hx rfl (pc0 := 69) (pc' := 76) rfl (hb hby d2_69) rfl ((if0 _ _).trans (flt (by decide : ¬ ((0 : Int32) < (0 : Int32)))).2.1) (by decide) (by decide) k_) ?_
      show OwnGo p e below s _ _ _ (s₁.setTop (mkF m 76 #[.val (.int xx), .val (.int yy), .val (.int fx), .val (.int fy), .val (.int tx), .val (.int ty), .val (.double dX), .second, .val (.double dY), .second, .val (.double pX), .second, .val (.double pY), .second, .val (.double sS), .second, .val (.double tT), .second, .unset, .unset, .unset, .unset] []))
      refine own_on (fun t_ k_ => XS.dload X0.here hx rfl (hb hby d2_76) rfl k_) ?_
      show OwnGo p e below s _ _ _ (s₁.setTop (mkF m 78 #[.val (.int xx), .val (.int yy), .val (.int fx), .val (.int fy), .val (.int tx), .val (.int ty), .val (.double dX), .second, .val (.double dY), .second, .val (.double pX), .second, .val (.double pY), .second, .val (.double sS), .second, .val (.double tT), .second, .unset, .unset, .unset, .unset] [(.double tT)]))
      refine own_on (fun t_ k_ => XS.dconst1 X0.here hx rfl (hb hby d2_78) rfl k_) ?_
      show OwnGo p e below s _ _ _ (s₁.setTop (mkF m 79 #[.val (.int xx), .val (.int yy), .val (.int fx), .val (.int fy), .val (.int tx), .val (.int ty), .val (.double dX), .second, .val (.double dY), .second, .val (.double pX), .second, .val (.double pY), .second, .val (.double sS), .second, .val (.double tT), .second, .unset, .unset, .unset, .unset] [(.double FP.dconst1), (.double tT)]))
      refine own_on (fun t_ k_ => XS.dcmpS (v := (-1 : Int32)) X0.here hx rfl (hb hby d2_79) rfl (own_dlt iT own_d1 (by decide) _) k_) ?_
      show OwnGo p e below s _ _ _ (s₁.setTop (mkF m 80 #[.val (.int xx), .val (.int yy), .val (.int fx), .val (.int fy), .val (.int tx), .val (.int ty), .val (.double dX), .second, .val (.double dY), .second, .val (.double pX), .second, .val (.double pY), .second, .val (.double sS), .second, .val (.double tT), .second, .unset, .unset, .unset, .unset] [(.int (-1 : Int32))]))
      refine own_on (fun t_ k_ => XS.ifYes X0.here hx rfl (pc0 := 80) (pc' := 87) rfl (hb hby d2_80) rfl ((if0 _ _).trans (flt (by decide : ¬ ((0 : Int32) < (-1 : Int32)))).2.2.2) (by decide) (by decide) k_) ?_
      show OwnGo p e below s _ _ _ (s₁.setTop (mkF m 87 #[.val (.int xx), .val (.int yy), .val (.int fx), .val (.int fy), .val (.int tx), .val (.int ty), .val (.double dX), .second, .val (.double dY), .second, .val (.double pX), .second, .val (.double pY), .second, .val (.double sS), .second, .val (.double tT), .second, .unset, .unset, .unset, .unset] []))
      refine own_on (fun t_ k_ => XS.dload X0.here hx rfl (hb hby d2_87) rfl k_) ?_
      show OwnGo p e below s _ _ _ (s₁.setTop (mkF m 89 #[.val (.int xx), .val (.int yy), .val (.int fx), .val (.int fy), .val (.int tx), .val (.int ty), .val (.double dX), .second, .val (.double dY), .second, .val (.double pX), .second, .val (.double pY), .second, .val (.double sS), .second, .val (.double tT), .second, .unset, .unset, .unset, .unset] [(.double tT)]))
      refine own_on (fun t_ k_ => XS.dstore X0.here hx rfl (hb hby d2_89) rfl (l' := #[.val (.int xx), .val (.int yy), .val (.int fx), .val (.int fy), .val (.int tx), .val (.int ty), .val (.double dX), .second, .val (.double dY), .second, .val (.double pX), .second, .val (.double pY), .second, .val (.double sS), .second, .val (.double tT), .second, .unset, .unset, .unset, .unset]) rfl k_) ?_
      show OwnGo p e below s _ _ _ (s₁.setTop (mkF m 91 #[.val (.int xx), .val (.int yy), .val (.int fx), .val (.int fy), .val (.int tx), .val (.int ty), .val (.double dX), .second, .val (.double dY), .second, .val (.double pX), .second, .val (.double pY), .second, .val (.double sS), .second, .val (.double tT), .second, .unset, .unset, .unset, .unset] []))
      obtain ⟨oX, eoX⟩ : ∃ v, FP.dsub (FP.dmul tT dX) pX = v := ⟨_, rfl⟩
      obtain ⟨oY, eoY⟩ : ∃ v, FP.dsub (FP.dmul tT dY) pY = v := ⟨_, rfl⟩
      obtain ⟨rR, eR⟩ : ∃ v, FP.dadd (FP.dmul oX oX) (FP.dmul oY oY) = v := ⟨_, rfl⟩
      obtain ⟨g1, g2, g3, g4, g5, g6, g7⟩ := own_out (i := 0) (by decide) bdX bdY bpX bpY iT hdX hdY hpX hpY eoX eoY eR
      have hsd : own_sd xx yy fx fy tx ty rR := by unfold own_sd own_SD; exact ⟨fun _ => g7, fun q => absurd q (by omega), fun q => absurd q (by omega)⟩
      refine own_on (fun t_ k_ => XS.dload X0.here hx rfl (hb hby d2_91) rfl k_) ?_
      show OwnGo p e below s _ _ _ (s₁.setTop (mkF m 93 #[.val (.int xx), .val (.int yy), .val (.int fx), .val (.int fy), .val (.int tx), .val (.int ty), .val (.double dX), .second, .val (.double dY), .second, .val (.double pX), .second, .val (.double pY), .second, .val (.double sS), .second, .val (.double tT), .second, .unset, .unset, .unset, .unset] [(.double tT)]))
      refine own_on (fun t_ k_ => XS.dload X0.here hx rfl (hb hby d2_93) rfl k_) ?_
      show OwnGo p e below s _ _ _ (s₁.setTop (mkF m 95 #[.val (.int xx), .val (.int yy), .val (.int fx), .val (.int fy), .val (.int tx), .val (.int ty), .val (.double dX), .second, .val (.double dY), .second, .val (.double pX), .second, .val (.double pY), .second, .val (.double sS), .second, .val (.double tT), .second, .unset, .unset, .unset, .unset] [(.double dX), (.double tT)]))
      refine own_on (fun t_ k_ => XS.dmulS X0.here hx rfl (hb hby d2_95) rfl (own_nn rfl g1) rfl k_) ?_
      show OwnGo p e below s _ _ _ (s₁.setTop (mkF m 96 #[.val (.int xx), .val (.int yy), .val (.int fx), .val (.int fy), .val (.int tx), .val (.int ty), .val (.double dX), .second, .val (.double dY), .second, .val (.double pX), .second, .val (.double pY), .second, .val (.double sS), .second, .val (.double tT), .second, .unset, .unset, .unset, .unset] [(.double (FP.dmul tT dX))]))
      refine own_on (fun t_ k_ => XS.dload X0.here hx rfl (hb hby d2_96) rfl k_) ?_
      show OwnGo p e below s _ _ _ (s₁.setTop (mkF m 98 #[.val (.int xx), .val (.int yy), .val (.int fx), .val (.int fy), .val (.int tx), .val (.int ty), .val (.double dX), .second, .val (.double dY), .second, .val (.double pX), .second, .val (.double pY), .second, .val (.double sS), .second, .val (.double tT), .second, .unset, .unset, .unset, .unset] [(.double pX), (.double (FP.dmul tT dX))]))
      refine own_on (fun t_ k_ => XS.dsubS X0.here hx rfl (hb hby d2_98) rfl (own_nn eoX g2) eoX k_) ?_
      show OwnGo p e below s _ _ _ (s₁.setTop (mkF m 99 #[.val (.int xx), .val (.int yy), .val (.int fx), .val (.int fy), .val (.int tx), .val (.int ty), .val (.double dX), .second, .val (.double dY), .second, .val (.double pX), .second, .val (.double pY), .second, .val (.double sS), .second, .val (.double tT), .second, .unset, .unset, .unset, .unset] [(.double oX)]))
      refine own_on (fun t_ k_ => XS.dstore X0.here hx rfl (hb hby d2_99) rfl (l' := #[.val (.int xx), .val (.int yy), .val (.int fx), .val (.int fy), .val (.int tx), .val (.int ty), .val (.double dX), .second, .val (.double dY), .second, .val (.double pX), .second, .val (.double pY), .second, .val (.double sS), .second, .val (.double tT), .second, .val (.double oX), .second, .unset, .unset]) rfl k_) ?_
      show OwnGo p e below s _ _ _ (s₁.setTop (mkF m 101 #[.val (.int xx), .val (.int yy), .val (.int fx), .val (.int fy), .val (.int tx), .val (.int ty), .val (.double dX), .second, .val (.double dY), .second, .val (.double pX), .second, .val (.double pY), .second, .val (.double sS), .second, .val (.double tT), .second, .val (.double oX), .second, .unset, .unset] []))
      refine own_on (fun t_ k_ => XS.dload X0.here hx rfl (hb hby d2_101) rfl k_) ?_
      show OwnGo p e below s _ _ _ (s₁.setTop (mkF m 103 #[.val (.int xx), .val (.int yy), .val (.int fx), .val (.int fy), .val (.int tx), .val (.int ty), .val (.double dX), .second, .val (.double dY), .second, .val (.double pX), .second, .val (.double pY), .second, .val (.double sS), .second, .val (.double tT), .second, .val (.double oX), .second, .unset, .unset] [(.double tT)]))
      refine own_on (fun t_ k_ => XS.dload X0.here hx rfl (hb hby d2_103) rfl k_) ?_
      show OwnGo p e below s _ _ _ (s₁.setTop (mkF m 105 #[.val (.int xx), .val (.int yy), .val (.int fx), .val (.int fy), .val (.int tx), .val (.int ty), .val (.double dX), .second, .val (.double dY), .second, .val (.double pX), .second, .val (.double pY), .second, .val (.double sS), .second, .val (.double tT), .second, .val (.double oX), .second, .unset, .unset] [(.double dY), (.double tT)]))
      refine own_on (fun t_ k_ => XS.dmulS X0.here hx rfl (hb hby d2_105) rfl (own_nn rfl g3) rfl k_) ?_
      show OwnGo p e below s _ _ _ (s₁.setTop (mkF m 106 #[.val (.int xx), .val (.int yy), .val (.int fx), .val (.int fy), .val (.int tx), .val (.int ty), .val (.double dX), .second, .val (.double dY), .second, .val (.double pX), .second, .val (.double pY), .second, .val (.double sS), .second, .val (.double tT), .second, .val (.double oX), .second, .unset, .unset] [(.double (FP.dmul tT dY))]))
      refine own_on (fun t_ k_ => XS.dload X0.here hx rfl (hb hby d2_106) rfl k_) ?_
      show OwnGo p e below s _ _ _ (s₁.setTop (mkF m 108 #[.val (.int xx), .val (.int yy), .val (.int fx), .val (.int fy), .val (.int tx), .val (.int ty), .val (.double dX), .second, .val (.double dY), .second, .val (.double pX), .second, .val (.double pY), .second, .val (.double sS), .second, .val (.double tT), .second, .val (.double oX), .second, .unset, .unset] [(.double pY), (.double (FP.dmul tT dY))]))
      refine own_on (fun t_ k_ => XS.dsubS X0.here hx rfl (hb hby d2_108) rfl (own_nn eoY g4) eoY k_) ?_
      show OwnGo p e below s _ _ _ (s₁.setTop (mkF m 109 #[.val (.int xx), .val (.int yy), .val (.int fx), .val (.int fy), .val (.int tx), .val (.int ty), .val (.double dX), .second, .val (.double dY), .second, .val (.double pX), .second, .val (.double pY), .second, .val (.double sS), .second, .val (.double tT), .second, .val (.double oX), .second, .unset, .unset] [(.double oY)]))
      refine own_on (fun t_ k_ => XS.dstore X0.here hx rfl (hb hby d2_109) rfl (l' := #[.val (.int xx), .val (.int yy), .val (.int fx), .val (.int fy), .val (.int tx), .val (.int ty), .val (.double dX), .second, .val (.double dY), .second, .val (.double pX), .second, .val (.double pY), .second, .val (.double sS), .second, .val (.double tT), .second, .val (.double oX), .second, .val (.double oY), .second]) rfl k_) ?_
      show OwnGo p e below s _ _ _ (s₁.setTop (mkF m 111 #[.val (.int xx), .val (.int yy), .val (.int fx), .val (.int fy), .val (.int tx), .val (.int ty), .val (.double dX), .second, .val (.double dY), .second, .val (.double pX), .second, .val (.double pY), .second, .val (.double sS), .second, .val (.double tT), .second, .val (.double oX), .second, .val (.double oY), .second] []))
      refine own_on (fun t_ k_ => XS.dload X0.here hx rfl (hb hby d2_111) rfl k_) ?_
      show OwnGo p e below s _ _ _ (s₁.setTop (mkF m 113 #[.val (.int xx), .val (.int yy), .val (.int fx), .val (.int fy), .val (.int tx), .val (.int ty), .val (.double dX), .second, .val (.double dY), .second, .val (.double pX), .second, .val (.double pY), .second, .val (.double sS), .second, .val (.double tT), .second, .val (.double oX), .second, .val (.double oY), .second] [(.double oX)]))
      refine own_on (fun t_ k_ => XS.dload X0.here hx rfl (hb hby d2_113) rfl k_) ?_
      show OwnGo p e below s _ _ _ (s₁.setTop (mkF m 115 #[.val (.int xx), .val (.int yy), .val (.int fx), .val (.int fy), .val (.int tx), .val (.int ty), .val (.double dX), .second, .val (.double dY), .second, .val (.double pX), .second, .val (.double pY), .second, .val (.double sS), .second, .val (.double tT), .second, .val (.double oX), .second, .val (.double oY), .second] [(.double oX), (.double oX)]))
      refine own_on (fun t_ k_ => XS.dmulS X0.here hx rfl (hb hby d2_115) rfl (own_nn rfl g5) rfl k_) ?_
      show OwnGo p e below s _ _ _ (s₁.setTop (mkF m 116 #[.val (.int xx), .val (.int yy), .val (.int fx), .val (.int fy), .val (.int tx), .val (.int ty), .val (.double dX), .second, .val (.double dY), .second, .val (.double pX), .second, .val (.double pY), .second, .val (.double sS), .second, .val (.double tT), .second, .val (.double oX), .second, .val (.double oY), .second] [(.double (FP.dmul oX oX))]))
      refine own_on (fun t_ k_ => XS.dload X0.here hx rfl (hb hby d2_116) rfl k_) ?_
      show OwnGo p e below s _ _ _ (s₁.setTop (mkF m 118 #[.val (.int xx), .val (.int yy), .val (.int fx), .val (.int fy), .val (.int tx), .val (.int ty), .val (.double dX), .second, .val (.double dY), .second, .val (.double pX), .second, .val (.double pY), .second, .val (.double sS), .second, .val (.double tT), .second, .val (.double oX), .second, .val (.double oY), .second] [(.double oY), (.double (FP.dmul oX oX))]))
      refine own_on (fun t_ k_ => XS.dload X0.here hx rfl (hb hby d2_118) rfl k_) ?_
      show OwnGo p e below s _ _ _ (s₁.setTop (mkF m 120 #[.val (.int xx), .val (.int yy), .val (.int fx), .val (.int fy), .val (.int tx), .val (.int ty), .val (.double dX), .second, .val (.double dY), .second, .val (.double pX), .second, .val (.double pY), .second, .val (.double sS), .second, .val (.double tT), .second, .val (.double oX), .second, .val (.double oY), .second] [(.double oY), (.double oY), (.double (FP.dmul oX oX))]))
      refine own_on (fun t_ k_ => XS.dmulS X0.here hx rfl (hb hby d2_120) rfl (own_nn rfl g6) rfl k_) ?_
      show OwnGo p e below s _ _ _ (s₁.setTop (mkF m 121 #[.val (.int xx), .val (.int yy), .val (.int fx), .val (.int fy), .val (.int tx), .val (.int ty), .val (.double dX), .second, .val (.double dY), .second, .val (.double pX), .second, .val (.double pY), .second, .val (.double sS), .second, .val (.double tT), .second, .val (.double oX), .second, .val (.double oY), .second] [(.double (FP.dmul oY oY)), (.double (FP.dmul oX oX))]))
      refine own_on (fun t_ k_ => XS.daddS X0.here hx rfl (hb hby d2_121) rfl (own_nn eR (own_dint g7).1) eR k_) ?_
      show OwnGo p e below s _ _ _ (s₁.setTop (mkF m 122 #[.val (.int xx), .val (.int yy), .val (.int fx), .val (.int fy), .val (.int tx), .val (.int ty), .val (.double dX), .second, .val (.double dY), .second, .val (.double pX), .second, .val (.double pY), .second, .val (.double sS), .second, .val (.double tT), .second, .val (.double oX), .second, .val (.double oY), .second] [(.double rR)]))
      exact own_retD X0 hx hlk Bd.returns (hb hby d2_122) e0 ⟨rR, rfl, N0, rfl, hsd⟩ (by decide) (by decide)
    · obtain ⟨fT, vT0, vT1, -⟩ := own_in bdX bdY bpX bpY hdX hdY hpX hpY hsS hdD hd0 hd1 eT rfl rfl rfl
      refine own_on (fun t_ k_ => XS.ddivS X0.here hx rfl (hb hby d2_62) rfl (own_nn eT fT) eT k_) ?_
      show OwnGo p e below s _ _ _ (s₁.setTop (mkF m 63 #[.val (.int xx), .val (.int yy), .val (.int fx), .val (.int fy), .val (.int tx), .val (.int ty), .val (.double dX), .second, .val (.double dY), .second, .val (.double pX), .second, .val (.double pY), .second, .val (.double sS), .second, .val (.double FP.dconst0), .second, .unset, .unset, .unset, .unset] [(.double tT)]))
      refine own_on (fun t_ k_ => XS.dstore X0.here hx rfl (hb hby d2_63) rfl (l' := #[.val (.int xx), .val (.int yy), .val (.int fx), .val (.int fy), .val (.int tx), .val (.int ty), .val (.double dX), .second, .val (.double dY), .second, .val (.double pX), .second, .val (.double pY), .second, .val (.double sS), .second, .val (.double tT), .second, .unset, .unset, .unset, .unset]) rfl k_) ?_
      show OwnGo p e below s _ _ _ (s₁.setTop (mkF m 65 #[.val (.int xx), .val (.int yy), .val (.int fx), .val (.int fy), .val (.int tx), .val (.int ty), .val (.double dX), .second, .val (.double dY), .second, .val (.double pX), .second, .val (.double pY), .second, .val (.double sS), .second, .val (.double tT), .second, .unset, .unset, .unset, .unset] []))
      refine own_on (fun t_ k_ => XS.dload X0.here hx rfl (hb hby d2_65) rfl k_) ?_
      show OwnGo p e below s _ _ _ (s₁.setTop (mkF m 67 #[.val (.int xx), .val (.int yy), .val (.int fx), .val (.int fy), .val (.int tx), .val (.int ty), .val (.double dX), .second, .val (.double dY), .second, .val (.double pX), .second, .val (.double pY), .second, .val (.double sS), .second, .val (.double tT), .second, .unset, .unset, .unset, .unset] [(.double tT)]))
      refine own_on (fun t_ k_ => XS.dconst0 X0.here hx rfl (hb hby d2_67) rfl k_) ?_
      show OwnGo p e below s _ _ _ (s₁.setTop (mkF m 68 #[.val (.int xx), .val (.int yy), .val (.int fx), .val (.int fy), .val (.int tx), .val (.int ty), .val (.double dX), .second, .val (.double dY), .second, .val (.double pX), .second, .val (.double pY), .second, .val (.double sS), .second, .val (.double tT), .second, .unset, .unset, .unset, .unset] [(.double FP.dconst0), (.double tT)]))
      refine own_on (fun t_ k_ => XS.dcmpS (v := (1 : Int32)) X0.here hx rfl (hb hby d2_68) rfl (own_vgt fT own_d0 vT0 _) k_) ?_
      show OwnGo p e below s _ _ _ (s₁.setTop (mkF m 69 #[.val (.int xx), .val (.int yy), .val (.int fx), .val (.int fy), .val (.int tx), .val (.int ty), .val (.double dX), .second, .val (.double dY), .second, .val (.double pX), .second, .val (.double pY), .second, .val (.double sS), .second, .val (.double tT), .second, .unset, .unset, .unset, .unset] [(.int (1 : Int32))]))
      refine own_on (fun t_ k_ => XS.ifYes X0.here hx rfl (pc0 := 69) (pc' := 76) rfl (hb hby d2_69) rfl ((if0 _ _).trans (flt (by decide : ¬ ((1 : Int32) < (0 : Int32)))).2.1) (by decide) (by decide) k_) ?_
      show OwnGo p e below s _ _ _ (s₁.setTop (mkF m 76 #[.val (.int xx), .val (.int yy), .val (.int fx), .val (.int fy), .val (.int tx), .val (.int ty), .val (.double dX), .second, .val (.double dY), .second, .val (.double pX), .second, .val (.double pY), .second, .val (.double sS), .second, .val (.double tT), .second, .unset, .unset, .unset, .unset] []))
      refine own_on (fun t_ k_ => XS.dload X0.here hx rfl (hb hby d2_76) rfl k_) ?_
      show OwnGo p e below s _ _ _ (s₁.setTop (mkF m 78 #[.val (.int xx), .val (.int yy), .val (.int fx), .val (.int fy), .val (.int tx), .val (.int ty), .val (.double dX), .second, .val (.double dY), .second, .val (.double pX), .second, .val (.double pY), .second, .val (.double sS), .second, .val (.double tT), .second, .unset, .unset, .unset, .unset] [(.double tT)]))
      refine own_on (fun t_ k_ => XS.dconst1 X0.here hx rfl (hb hby d2_78) rfl k_) ?_
      show OwnGo p e below s _ _ _ (s₁.setTop (mkF m 79 #[.val (.int xx), .val (.int yy), .val (.int fx), .val (.int fy), .val (.int tx), .val (.int ty), .val (.double dX), .second, .val (.double dY), .second, .val (.double pX), .second, .val (.double pY), .second, .val (.double sS), .second, .val (.double tT), .second, .unset, .unset, .unset, .unset] [(.double FP.dconst1), (.double tT)]))
      refine own_on (fun t_ k_ => XS.dcmpS (v := (-1 : Int32)) X0.here hx rfl (hb hby d2_79) rfl (own_vlt fT own_d1 vT1 _) k_) ?_
      show OwnGo p e below s _ _ _ (s₁.setTop (mkF m 80 #[.val (.int xx), .val (.int yy), .val (.int fx), .val (.int fy), .val (.int tx), .val (.int ty), .val (.double dX), .second, .val (.double dY), .second, .val (.double pX), .second, .val (.double pY), .second, .val (.double sS), .second, .val (.double tT), .second, .unset, .unset, .unset, .unset] [(.int (-1 : Int32))]))
      refine own_on (fun t_ k_ => XS.ifYes X0.here hx rfl (pc0 := 80) (pc' := 87) rfl (hb hby d2_80) rfl ((if0 _ _).trans (flt (by decide : ¬ ((0 : Int32) < (-1 : Int32)))).2.2.2) (by decide) (by decide) k_) ?_
      show OwnGo p e below s _ _ _ (s₁.setTop (mkF m 87 #[.val (.int xx), .val (.int yy), .val (.int fx), .val (.int fy), .val (.int tx), .val (.int ty), .val (.double dX), .second, .val (.double dY), .second, .val (.double pX), .second, .val (.double pY), .second, .val (.double sS), .second, .val (.double tT), .second, .unset, .unset, .unset, .unset] []))
      refine own_on (fun t_ k_ => XS.dload X0.here hx rfl (hb hby d2_87) rfl k_) ?_
      show OwnGo p e below s _ _ _ (s₁.setTop (mkF m 89 #[.val (.int xx), .val (.int yy), .val (.int fx), .val (.int fy), .val (.int tx), .val (.int ty), .val (.double dX), .second, .val (.double dY), .second, .val (.double pX), .second, .val (.double pY), .second, .val (.double sS), .second, .val (.double tT), .second, .unset, .unset, .unset, .unset] [(.double tT)]))
      refine own_on (fun t_ k_ => XS.dstore X0.here hx rfl (hb hby d2_89) rfl (l' := #[.val (.int xx), .val (.int yy), .val (.int fx), .val (.int fy), .val (.int tx), .val (.int ty), .val (.double dX), .second, .val (.double dY), .second, .val (.double pX), .second, .val (.double pY), .second, .val (.double sS), .second, .val (.double tT), .second, .unset, .unset, .unset, .unset]) rfl k_) ?_
      show OwnGo p e below s _ _ _ (s₁.setTop (mkF m 91 #[.val (.int xx), .val (.int yy), .val (.int fx), .val (.int fy), .val (.int tx), .val (.int ty), .val (.double dX), .second, .val (.double dY), .second, .val (.double pX), .second, .val (.double pY), .second, .val (.double sS), .second, .val (.double tT), .second, .unset, .unset, .unset, .unset] []))
      obtain ⟨oX, eoX⟩ : ∃ v, FP.dsub (FP.dmul tT dX) pX = v := ⟨_, rfl⟩
      obtain ⟨oY, eoY⟩ : ∃ v, FP.dsub (FP.dmul tT dY) pY = v := ⟨_, rfl⟩
      obtain ⟨rR, eR⟩ : ∃ v, FP.dadd (FP.dmul oX oX) (FP.dmul oY oY) = v := ⟨_, rfl⟩
      obtain ⟨-, -, -, g1, g2, g3, g4, g5, g6, g7, g8, g9, g10⟩ := own_in bdX bdY bpX bpY hdX hdY hpX hpY hsS hdD hd0 hd1 eT eoX eoY eR
      have hsd : own_sd xx yy fx fy tx ty rR := by unfold own_sd own_SD; exact ⟨fun q => absurd q (by omega), fun _ q => absurd q (by omega), fun _ _ => ⟨g7, g8, g9, g10⟩⟩
      refine own_on (fun t_ k_ => XS.dload X0.here hx rfl (hb hby d2_91) rfl k_) ?_
      show OwnGo p e below s _ _ _ (s₁.setTop (mkF m 93 #[.val (.int xx), .val (.int yy), .val (.int fx), .val (.int fy), .val (.int tx), .val (.int ty), .val (.double dX), .second, .val (.double dY), .second, .val (.double pX), .second, .val (.double pY), .second, .val (.double sS), .second, .val (.double tT), .second, .unset, .unset, .unset, .unset] [(.double tT)]))
      refine own_on (fun t_ k_ => XS.dload X0.here hx rfl (hb hby d2_93) rfl k_) ?_
      show OwnGo p e below s _ _ _ (s₁.setTop (mkF m 95 #[.val (.int xx), .val (.int yy), .val (.int fx), .val (.int fy), .val (.int tx), .val (.int ty), .val (.double dX), .second, .val (.double dY), .second, .val (.double pX), .second, .val (.double pY), .second, .val (.double sS), .second, .val (.double tT), .second, .unset, .unset, .unset, .unset] [(.double dX), (.double tT)]))
      refine own_on (fun t_ k_ => XS.dmulS X0.here hx rfl (hb hby d2_95) rfl (own_nn rfl g1) rfl k_) ?_
      show OwnGo p e below s _ _ _ (s₁.setTop (mkF m 96 #[.val (.int xx), .val (.int yy), .val (.int fx), .val (.int fy), .val (.int tx), .val (.int ty), .val (.double dX), .second, .val (.double dY), .second, .val (.double pX), .second, .val (.double pY), .second, .val (.double sS), .second, .val (.double tT), .second, .unset, .unset, .unset, .unset] [(.double (FP.dmul tT dX))]))
      refine own_on (fun t_ k_ => XS.dload X0.here hx rfl (hb hby d2_96) rfl k_) ?_
      show OwnGo p e below s _ _ _ (s₁.setTop (mkF m 98 #[.val (.int xx), .val (.int yy), .val (.int fx), .val (.int fy), .val (.int tx), .val (.int ty), .val (.double dX), .second, .val (.double dY), .second, .val (.double pX), .second, .val (.double pY), .second, .val (.double sS), .second, .val (.double tT), .second, .unset, .unset, .unset, .unset] [(.double pX), (.double (FP.dmul tT dX))]))
      refine own_on (fun t_ k_ => XS.dsubS X0.here hx rfl (hb hby d2_98) rfl (own_nn eoX g2) eoX k_) ?_
      show OwnGo p e below s _ _ _ (s₁.setTop (mkF m 99 #[.val (.int xx), .val (.int yy), .val (.int fx), .val (.int fy), .val (.int tx), .val (.int ty), .val (.double dX), .second, .val (.double dY), .second, .val (.double pX), .second, .val (.double pY), .second, .val (.double sS), .second, .val (.double tT), .second, .unset, .unset, .unset, .unset] [(.double oX)]))
      refine own_on (fun t_ k_ => XS.dstore X0.here hx rfl (hb hby d2_99) rfl (l' := #[.val (.int xx), .val (.int yy), .val (.int fx), .val (.int fy), .val (.int tx), .val (.int ty), .val (.double dX), .second, .val (.double dY), .second, .val (.double pX), .second, .val (.double pY), .second, .val (.double sS), .second, .val (.double tT), .second, .val (.double oX), .second, .unset, .unset]) rfl k_) ?_
      show OwnGo p e below s _ _ _ (s₁.setTop (mkF m 101 #[.val (.int xx), .val (.int yy), .val (.int fx), .val (.int fy), .val (.int tx), .val (.int ty), .val (.double dX), .second, .val (.double dY), .second, .val (.double pX), .second, .val (.double pY), .second, .val (.double sS), .second, .val (.double tT), .second, .val (.double oX), .second, .unset, .unset] []))
      refine own_on (fun t_ k_ => XS.dload X0.here hx rfl (hb hby d2_101) rfl k_) ?_
      show OwnGo p e below s _ _ _ (s₁.setTop (mkF m 103 #[.val (.int xx), .val (.int yy), .val (.int fx), .val (.int fy), .val (.int tx), .val (.int ty), .val (.double dX), .second, .val (.double dY), .second, .val (.double pX), .second, .val (.double pY), .second, .val (.double sS), .second, .val (.double tT), .second, .val (.double oX), .second, .unset, .unset] [(.double tT)]))
      refine own_on (fun t_ k_ => XS.dload X0.here hx rfl (hb hby d2_103) rfl k_) ?_
      show OwnGo p e below s _ _ _ (s₁.setTop (mkF m 105 #[.val (.int xx), .val (.int yy), .val (.int fx), .val (.int fy), .val (.int tx), .val (.int ty), .val (.double dX), .second, .val (.double dY), .second, .val (.double pX), .second, .val (.double pY), .second, .val (.double sS), .second, .val (.double tT), .second, .val (.double oX), .second, .unset, .unset] [(.double dY), (.double tT)]))
      refine own_on (fun t_ k_ => XS.dmulS X0.here hx rfl (hb hby d2_105) rfl (own_nn rfl g3) rfl k_) ?_
      show OwnGo p e below s _ _ _ (s₁.setTop (mkF m 106 #[.val (.int xx), .val (.int yy), .val (.int fx), .val (.int fy), .val (.int tx), .val (.int ty), .val (.double dX), .second, .val (.double dY), .second, .val (.double pX), .second, .val (.double pY), .second, .val (.double sS), .second, .val (.double tT), .second, .val (.double oX), .second, .unset, .unset] [(.double (FP.dmul tT dY))]))
      refine own_on (fun t_ k_ => XS.dload X0.here hx rfl (hb hby d2_106) rfl k_) ?_
      show OwnGo p e below s _ _ _ (s₁.setTop (mkF m 108 #[.val (.int xx), .val (.int yy), .val (.int fx), .val (.int fy), .val (.int tx), .val (.int ty), .val (.double dX), .second, .val (.double dY), .second, .val (.double pX), .second, .val (.double pY), .second, .val (.double sS), .second, .val (.double tT), .second, .val (.double oX), .second, .unset, .unset] [(.double pY), (.double (FP.dmul tT dY))]))
      refine own_on (fun t_ k_ => XS.dsubS X0.here hx rfl (hb hby d2_108) rfl (own_nn eoY g4) eoY k_) ?_
      show OwnGo p e below s _ _ _ (s₁.setTop (mkF m 109 #[.val (.int xx), .val (.int yy), .val (.int fx), .val (.int fy), .val (.int tx), .val (.int ty), .val (.double dX), .second, .val (.double dY), .second, .val (.double pX), .second, .val (.double pY), .second, .val (.double sS), .second, .val (.double tT), .second, .val (.double oX), .second, .unset, .unset] [(.double oY)]))
      refine own_on (fun t_ k_ => XS.dstore X0.here hx rfl (hb hby d2_109) rfl (l' := #[.val (.int xx), .val (.int yy), .val (.int fx), .val (.int fy), .val (.int tx), .val (.int ty), .val (.double dX), .second, .val (.double dY), .second, .val (.double pX), .second, .val (.double pY), .second, .val (.double sS), .second, .val (.double tT), .second, .val (.double oX), .second, .val (.double oY), .second]) rfl k_) ?_
      show OwnGo p e below s _ _ _ (s₁.setTop (mkF m 111 #[.val (.int xx), .val (.int yy), .val (.int fx), .val (.int fy), .val (.int tx), .val (.int ty), .val (.double dX), .second, .val (.double dY), .second, .val (.double pX), .second, .val (.double pY), .second, .val (.double sS), .second, .val (.double tT), .second, .val (.double oX), .second, .val (.double oY), .second] []))
      refine own_on (fun t_ k_ => XS.dload X0.here hx rfl (hb hby d2_111) rfl k_) ?_
      show OwnGo p e below s _ _ _ (s₁.setTop (mkF m 113 #[.val (.int xx), .val (.int yy), .val (.int fx), .val (.int fy), .val (.int tx), .val (.int ty), .val (.double dX), .second, .val (.double dY), .second, .val (.double pX), .second, .val (.double pY), .second, .val (.double sS), .second, .val (.double tT), .second, .val (.double oX), .second, .val (.double oY), .second] [(.double oX)]))
      refine own_on (fun t_ k_ => XS.dload X0.here hx rfl (hb hby d2_113) rfl k_) ?_
      show OwnGo p e below s _ _ _ (s₁.setTop (mkF m 115 #[.val (.int xx), .val (.int yy), .val (.int fx), .val (.int fy), .val (.int tx), .val (.int ty), .val (.double dX), .second, .val (.double dY), .second, .val (.double pX), .second, .val (.double pY), .second, .val (.double sS), .second, .val (.double tT), .second, .val (.double oX), .second, .val (.double oY), .second] [(.double oX), (.double oX)]))
      refine own_on (fun t_ k_ => XS.dmulS X0.here hx rfl (hb hby d2_115) rfl (own_nn rfl g5) rfl k_) ?_
      show OwnGo p e below s _ _ _ (s₁.setTop (mkF m 116 #[.val (.int xx), .val (.int yy), .val (.int fx), .val (.int fy), .val (.int tx), .val (.int ty), .val (.double dX), .second, .val (.double dY), .second, .val (.double pX), .second, .val (.double pY), .second, .val (.double sS), .second, .val (.double tT), .second, .val (.double oX), .second, .val (.double oY), .second] [(.double (FP.dmul oX oX))]))
      refine own_on (fun t_ k_ => XS.dload X0.here hx rfl (hb hby d2_116) rfl k_) ?_
      show OwnGo p e below s _ _ _ (s₁.setTop (mkF m 118 #[.val (.int xx), .val (.int yy), .val (.int fx), .val (.int fy), .val (.int tx), .val (.int ty), .val (.double dX), .second, .val (.double dY), .second, .val (.double pX), .second, .val (.double pY), .second, .val (.double sS), .second, .val (.double tT), .second, .val (.double oX), .second, .val (.double oY), .second] [(.double oY), (.double (FP.dmul oX oX))]))
      refine own_on (fun t_ k_ => XS.dload X0.here hx rfl (hb hby d2_118) rfl k_) ?_
      show OwnGo p e below s _ _ _ (s₁.setTop (mkF m 120 #[.val (.int xx), .val (.int yy), .val (.int fx), .val (.int fy), .val (.int tx), .val (.int ty), .val (.double dX), .second, .val (.double dY), .second, .val (.double pX), .second, .val (.double pY), .second, .val (.double sS), .second, .val (.double tT), .second, .val (.double oX), .second, .val (.double oY), .second] [(.double oY), (.double oY), (.double (FP.dmul oX oX))]))
      refine own_on (fun t_ k_ => XS.dmulS X0.here hx rfl (hb hby d2_120) rfl (own_nn rfl g6) rfl k_) ?_
      show OwnGo p e below s _ _ _ (s₁.setTop (mkF m 121 #[.val (.int xx), .val (.int yy), .val (.int fx), .val (.int fy), .val (.int tx), .val (.int ty), .val (.double dX), .second, .val (.double dY), .second, .val (.double pX), .second, .val (.double pY), .second, .val (.double sS), .second, .val (.double tT), .second, .val (.double oX), .second, .val (.double oY), .second] [(.double (FP.dmul oY oY)), (.double (FP.dmul oX oX))]))
      refine own_on (fun t_ k_ => XS.daddS X0.here hx rfl (hb hby d2_121) rfl (own_nn eR g7) eR k_) ?_
      show OwnGo p e below s _ _ _ (s₁.setTop (mkF m 122 #[.val (.int xx), .val (.int yy), .val (.int fx), .val (.int fy), .val (.int tx), .val (.int ty), .val (.double dX), .second, .val (.double dY), .second, .val (.double pX), .second, .val (.double pY), .second, .val (.double sS), .second, .val (.double tT), .second, .val (.double oX), .second, .val (.double oY), .second] [(.double rR)]))
      exact own_retD X0 hx hlk Bd.returns (hb hby d2_122) e0 ⟨rR, rfl, N0, rfl, hsd⟩ (by decide) (by decide)
    · have iT := own_quone (show DInt ((tx.toInt - fx.toInt) * (tx.toInt - fx.toInt) + (ty.toInt - fy.toInt) * (ty.toInt - fy.toInt)) dD by rw [← hd]; exact hdD) hsS hs1 eT
      have fT := (own_dint iT).1
      refine own_on (fun t_ k_ => XS.ddivS X0.here hx rfl (hb hby d2_62) rfl (own_nn eT fT) eT k_) ?_
      show OwnGo p e below s _ _ _ (s₁.setTop (mkF m 63 #[.val (.int xx), .val (.int yy), .val (.int fx), .val (.int fy), .val (.int tx), .val (.int ty), .val (.double dX), .second, .val (.double dY), .second, .val (.double pX), .second, .val (.double pY), .second, .val (.double sS), .second, .val (.double FP.dconst0), .second, .unset, .unset, .unset, .unset] [(.double tT)]))
      refine own_on (fun t_ k_ => XS.dstore X0.here hx rfl (hb hby d2_63) rfl (l' := #[.val (.int xx), .val (.int yy), .val (.int fx), .val (.int fy), .val (.int tx), .val (.int ty), .val (.double dX), .second, .val (.double dY), .second, .val (.double pX), .second, .val (.double pY), .second, .val (.double sS), .second, .val (.double tT), .second, .unset, .unset, .unset, .unset]) rfl k_) ?_
      show OwnGo p e below s _ _ _ (s₁.setTop (mkF m 65 #[.val (.int xx), .val (.int yy), .val (.int fx), .val (.int fy), .val (.int tx), .val (.int ty), .val (.double dX), .second, .val (.double dY), .second, .val (.double pX), .second, .val (.double pY), .second, .val (.double sS), .second, .val (.double tT), .second, .unset, .unset, .unset, .unset] []))
      refine own_on (fun t_ k_ => XS.dload X0.here hx rfl (hb hby d2_65) rfl k_) ?_
      show OwnGo p e below s _ _ _ (s₁.setTop (mkF m 67 #[.val (.int xx), .val (.int yy), .val (.int fx), .val (.int fy), .val (.int tx), .val (.int ty), .val (.double dX), .second, .val (.double dY), .second, .val (.double pX), .second, .val (.double pY), .second, .val (.double sS), .second, .val (.double tT), .second, .unset, .unset, .unset, .unset] [(.double tT)]))
      refine own_on (fun t_ k_ => XS.dconst0 X0.here hx rfl (hb hby d2_67) rfl k_) ?_
      show OwnGo p e below s _ _ _ (s₁.setTop (mkF m 68 #[.val (.int xx), .val (.int yy), .val (.int fx), .val (.int fy), .val (.int tx), .val (.int ty), .val (.double dX), .second, .val (.double dY), .second, .val (.double pX), .second, .val (.double pY), .second, .val (.double sS), .second, .val (.double tT), .second, .unset, .unset, .unset, .unset] [(.double FP.dconst0), (.double tT)]))
      refine own_on (fun t_ k_ => XS.dcmpS (v := (1 : Int32)) X0.here hx rfl (hb hby d2_68) rfl (own_dgt iT own_d0 (by decide) _) k_) ?_
      show OwnGo p e below s _ _ _ (s₁.setTop (mkF m 69 #[.val (.int xx), .val (.int yy), .val (.int fx), .val (.int fy), .val (.int tx), .val (.int ty), .val (.double dX), .second, .val (.double dY), .second, .val (.double pX), .second, .val (.double pY), .second, .val (.double sS), .second, .val (.double tT), .second, .unset, .unset, .unset, .unset] [(.int (1 : Int32))]))
      refine own_on (fun t_ k_ => XS.ifYes X0.here hx rfl (pc0 := 69) (pc' := 76) rfl (hb hby d2_69) rfl ((if0 _ _).trans (flt (by decide : ¬ ((1 : Int32) < (0 : Int32)))).2.1) (by decide) (by decide) k_) ?_
      show OwnGo p e below s _ _ _ (s₁.setTop (mkF m 76 #[.val (.int xx), .val (.int yy), .val (.int fx), .val (.int fy), .val (.int tx), .val (.int ty), .val (.double dX), .second, .val (.double dY), .second, .val (.double pX), .second, .val (.double pY), .second, .val (.double sS), .second, .val (.double tT), .second, .unset, .unset, .unset, .unset] []))
      refine own_on (fun t_ k_ => XS.dload X0.here hx rfl (hb hby d2_76) rfl k_) ?_
      show OwnGo p e below s _ _ _ (s₁.setTop (mkF m 78 #[.val (.int xx), .val (.int yy), .val (.int fx), .val (.int fy), .val (.int tx), .val (.int ty), .val (.double dX), .second, .val (.double dY), .second, .val (.double pX), .second, .val (.double pY), .second, .val (.double sS), .second, .val (.double tT), .second, .unset, .unset, .unset, .unset] [(.double tT)]))
      refine own_on (fun t_ k_ => XS.dconst1 X0.here hx rfl (hb hby d2_78) rfl k_) ?_
      show OwnGo p e below s _ _ _ (s₁.setTop (mkF m 79 #[.val (.int xx), .val (.int yy), .val (.int fx), .val (.int fy), .val (.int tx), .val (.int ty), .val (.double dX), .second, .val (.double dY), .second, .val (.double pX), .second, .val (.double pY), .second, .val (.double sS), .second, .val (.double tT), .second, .unset, .unset, .unset, .unset] [(.double FP.dconst1), (.double tT)]))
      refine own_on (fun t_ k_ => XS.dcmpS (v := (0 : Int32)) X0.here hx rfl (hb hby d2_79) rfl (own_deq iT own_d1 rfl _) k_) ?_
      show OwnGo p e below s _ _ _ (s₁.setTop (mkF m 80 #[.val (.int xx), .val (.int yy), .val (.int fx), .val (.int fy), .val (.int tx), .val (.int ty), .val (.double dX), .second, .val (.double dY), .second, .val (.double pX), .second, .val (.double pY), .second, .val (.double sS), .second, .val (.double tT), .second, .unset, .unset, .unset, .unset] [(.int (0 : Int32))]))
      refine own_on (fun t_ k_ => XS.ifYes X0.here hx rfl (pc0 := 80) (pc' := 87) rfl (hb hby d2_80) rfl ((if0 _ _).trans (flt (by decide : ¬ ((0 : Int32) < (0 : Int32)))).2.2.2) (by decide) (by decide) k_) ?_
      show OwnGo p e below s _ _ _ (s₁.setTop (mkF m 87 #[.val (.int xx), .val (.int yy), .val (.int fx), .val (.int fy), .val (.int tx), .val (.int ty), .val (.double dX), .second, .val (.double dY), .second, .val (.double pX), .second, .val (.double pY), .second, .val (.double sS), .second, .val (.double tT), .second, .unset, .unset, .unset, .unset] []))
      refine own_on (fun t_ k_ => XS.dload X0.here hx rfl (hb hby d2_87) rfl k_) ?_
      show OwnGo p e below s _ _ _ (s₁.setTop (mkF m 89 #[.val (.int xx), .val (.int yy), .val (.int fx), .val (.int fy), .val (.int tx), .val (.int ty), .val (.double dX), .second, .val (.double dY), .second, .val (.double pX), .second, .val (.double pY), .second, .val (.double sS), .second, .val (.double tT), .second, .unset, .unset, .unset, .unset] [(.double tT)]))
      refine own_on (fun t_ k_ => XS.dstore X0.here hx rfl (hb hby d2_89) rfl (l' := #[.val (.int xx), .val (.int yy), .val (.int fx), .val (.int fy), .val (.int tx), .val (.int ty), .val (.double dX), .second, .val (.double dY), .second, .val (.double pX), .second, .val (.double pY), .second, .val (.double sS), .second, .val (.double tT), .second, .unset, .unset, .unset, .unset]) rfl k_) ?_
      show OwnGo p e below s _ _ _ (s₁.setTop (mkF m 91 #[.val (.int xx), .val (.int yy), .val (.int fx), .val (.int fy), .val (.int tx), .val (.int ty), .val (.double dX), .second, .val (.double dY), .second, .val (.double pX), .second, .val (.double pY), .second, .val (.double sS), .second, .val (.double tT), .second, .unset, .unset, .unset, .unset] []))
      obtain ⟨oX, eoX⟩ : ∃ v, FP.dsub (FP.dmul tT dX) pX = v := ⟨_, rfl⟩
      obtain ⟨oY, eoY⟩ : ∃ v, FP.dsub (FP.dmul tT dY) pY = v := ⟨_, rfl⟩
      obtain ⟨rR, eR⟩ : ∃ v, FP.dadd (FP.dmul oX oX) (FP.dmul oY oY) = v := ⟨_, rfl⟩
      obtain ⟨g1, g2, g3, g4, g5, g6, g7⟩ := own_out (i := 1) (by decide) bdX bdY bpX bpY iT hdX hdY hpX hpY eoX eoY eR
      have hsd : own_sd xx yy fx fy tx ty rR := by unfold own_sd own_SD; exact ⟨fun q => absurd q (by omega), fun _ _ => g7, fun _ q => absurd q (by omega)⟩
      refine own_on (fun t_ k_ => XS.dload X0.here hx rfl (hb hby d2_91) rfl k_) ?_
      show OwnGo p e below s _ _ _ (s₁.setTop (mkF m 93 #[.val (.int xx), .val (.int yy), .val (.int fx), .val (.int fy), .val (.int tx), .val (.int ty), .val (.double dX), .second, .val (.double dY), .second, .val (.double pX), .second, .val (.double pY), .second, .val (.double sS), .second, .val (.double tT), .second, .unset, .unset, .unset, .unset] [(.double tT)]))
      refine own_on (fun t_ k_ => XS.dload X0.here hx rfl (hb hby d2_93) rfl k_) ?_
      show OwnGo p e below s _ _ _ (s₁.setTop (mkF m 95 #[.val (.int xx), .val (.int yy), .val (.int fx), .val (.int fy), .val (.int tx), .val (.int ty), .val (.double dX), .second, .val (.double dY), .second, .val (.double pX), .second, .val (.double pY), .second, .val (.double sS), .second, .val (.double tT), .second, .unset, .unset, .unset, .unset] [(.double dX), (.double tT)]))
      refine own_on (fun t_ k_ => XS.dmulS X0.here hx rfl (hb hby d2_95) rfl (own_nn rfl g1) rfl k_) ?_
      show OwnGo p e below s _ _ _ (s₁.setTop (mkF m 96 #[.val (.int xx), .val (.int yy), .val (.int fx), .val (.int fy), .val (.int tx), .val (.int ty), .val (.double dX), .second, .val (.double dY), .second, .val (.double pX), .second, .val (.double pY), .second, .val (.double sS), .second, .val (.double tT), .second, .unset, .unset, .unset, .unset] [(.double (FP.dmul tT dX))]))
      refine own_on (fun t_ k_ => XS.dload X0.here hx rfl (hb hby d2_96) rfl k_) ?_
      show OwnGo p e below s _ _ _ (s₁.setTop (mkF m 98 #[.val (.int xx), .val (.int yy), .val (.int fx), .val (.int fy), .val (.int tx), .val (.int ty), .val (.double dX), .second, .val (.double dY), .second, .val (.double pX), .second, .val (.double pY), .second, .val (.double sS), .second, .val (.double tT), .second, .unset, .unset, .unset, .unset] [(.double pX), (.double (FP.dmul tT dX))]))
      refine own_on (fun t_ k_ => XS.dsubS X0.here hx rfl (hb hby d2_98) rfl (own_nn eoX g2) eoX k_) ?_
      show OwnGo p e below s _ _ _ (s₁.setTop (mkF m 99 #[.val (.int xx), .val (.int yy), .val (.int fx), .val (.int fy), .val (.int tx), .val (.int ty), .val (.double dX), .second, .val (.double dY), .second, .val (.double pX), .second, .val (.double pY), .second, .val (.double sS), .second, .val (.double tT), .second, .unset, .unset, .unset, .unset] [(.double oX)]))
      refine own_on (fun t_ k_ => XS.dstore X0.here hx rfl (hb hby d2_99) rfl (l' := #[.val (.int xx), .val (.int yy), .val (.int fx), .val (.int fy), .val (.int tx), .val (.int ty), .val (.double dX), .second, .val (.double dY), .second, .val (.double pX), .second, .val (.double pY), .second, .val (.double sS), .second, .val (.double tT), .second, .val (.double oX), .second, .unset, .unset]) rfl k_) ?_
      show OwnGo p e below s _ _ _ (s₁.setTop (mkF m 101 #[.val (.int xx), .val (.int yy), .val (.int fx), .val (.int fy), .val (.int tx), .val (.int ty), .val (.double dX), .second, .val (.double dY), .second, .val (.double pX), .second, .val (.double pY), .second, .val (.double sS), .second, .val (.double tT), .second, .val (.double oX), .second, .unset, .unset] []))
      refine own_on (fun t_ k_ => XS.dload X0.here hx rfl (hb hby d2_101) rfl k_) ?_
      show OwnGo p e below s _ _ _ (s₁.setTop (mkF m 103 #[.val (.int xx), .val (.int yy), .val (.int fx), .val (.int fy), .val (.int tx), .val (.int ty), .val (.double dX), .second, .val (.double dY), .second, .val (.double pX), .second, .val (.double pY), .second, .val (.double sS), .second, .val (.double tT), .second, .val (.double oX), .second, .unset, .unset] [(.double tT)]))
      refine own_on (fun t_ k_ => XS.dload X0.here hx rfl (hb hby d2_103) rfl k_) ?_
      show OwnGo p e below s _ _ _ (s₁.setTop (mkF m 105 #[.val (.int xx), .val (.int yy), .val (.int fx), .val (.int fy), .val (.int tx), .val (.int ty), .val (.double dX), .second, .val (.double dY), .second, .val (.double pX), .second, .val (.double pY), .second, .val (.double sS), .second, .val (.double tT), .second, .val (.double oX), .second, .unset, .unset] [(.double dY), (.double tT)]))
      refine own_on (fun t_ k_ => XS.dmulS X0.here hx rfl (hb hby d2_105) rfl (own_nn rfl g3) rfl k_) ?_
      show OwnGo p e below s _ _ _ (s₁.setTop (mkF m 106 #[.val (.int xx), .val (.int yy), .val (.int fx), .val (.int fy), .val (.int tx), .val (.int ty), .val (.double dX), .second, .val (.double dY), .second, .val (.double pX), .second, .val (.double pY), .second, .val (.double sS), .second, .val (.double tT), .second, .val (.double oX), .second, .unset, .unset] [(.double (FP.dmul tT dY))]))
      refine own_on (fun t_ k_ => XS.dload X0.here hx rfl (hb hby d2_106) rfl k_) ?_
      show OwnGo p e below s _ _ _ (s₁.setTop (mkF m 108 #[.val (.int xx), .val (.int yy), .val (.int fx), .val (.int fy), .val (.int tx), .val (.int ty), .val (.double dX), .second, .val (.double dY), .second, .val (.double pX), .second, .val (.double pY), .second, .val (.double sS), .second, .val (.double tT), .second, .val (.double oX), .second, .unset, .unset] [(.double pY), (.double (FP.dmul tT dY))]))
      refine own_on (fun t_ k_ => XS.dsubS X0.here hx rfl (hb hby d2_108) rfl (own_nn eoY g4) eoY k_) ?_
      show OwnGo p e below s _ _ _ (s₁.setTop (mkF m 109 #[.val (.int xx), .val (.int yy), .val (.int fx), .val (.int fy), .val (.int tx), .val (.int ty), .val (.double dX), .second, .val (.double dY), .second, .val (.double pX), .second, .val (.double pY), .second, .val (.double sS), .second, .val (.double tT), .second, .val (.double oX), .second, .unset, .unset] [(.double oY)]))
      refine own_on (fun t_ k_ => XS.dstore X0.here hx rfl (hb hby d2_109) rfl (l' := #[.val (.int xx), .val (.int yy), .val (.int fx), .val (.int fy), .val (.int tx), .val (.int ty), .val (.double dX), .second, .val (.double dY), .second, .val (.double pX), .second, .val (.double pY), .second, .val (.double sS), .second, .val (.double tT), .second, .val (.double oX), .second, .val (.double oY), .second]) rfl k_) ?_
      show OwnGo p e below s _ _ _ (s₁.setTop (mkF m 111 #[.val (.int xx), .val (.int yy), .val (.int fx), .val (.int fy), .val (.int tx), .val (.int ty), .val (.double dX), .second, .val (.double dY), .second, .val (.double pX), .second, .val (.double pY), .second, .val (.double sS), .second, .val (.double tT), .second, .val (.double oX), .second, .val (.double oY), .second] []))
      refine own_on (fun t_ k_ => XS.dload X0.here hx rfl (hb hby d2_111) rfl k_) ?_
      show OwnGo p e below s _ _ _ (s₁.setTop (mkF m 113 #[.val (.int xx), .val (.int yy), .val (.int fx), .val (.int fy), .val (.int tx), .val (.int ty), .val (.double dX), .second, .val (.double dY), .second, .val (.double pX), .second, .val (.double pY), .second, .val (.double sS), .second, .val (.double tT), .second, .val (.double oX), .second, .val (.double oY), .second] [(.double oX)]))
      refine own_on (fun t_ k_ => XS.dload X0.here hx rfl (hb hby d2_113) rfl k_) ?_
      show OwnGo p e below s _ _ _ (s₁.setTop (mkF m 115 #[.val (.int xx), .val (.int yy), .val (.int fx), .val (.int fy), .val (.int tx), .val (.int ty), .val (.double dX), .second, .val (.double dY), .second, .val (.double pX), .second, .val (.double pY), .second, .val (.double sS), .second, .val (.double tT), .second, .val (.double oX), .second, .val (.double oY), .second] [(.double oX), (.double oX)]))
      refine own_on (fun t_ k_ => XS.dmulS X0.here hx rfl (hb hby d2_115) rfl (own_nn rfl g5) rfl k_) ?_
      show OwnGo p e below s _ _ _ (s₁.setTop (mkF m 116 #[.val (.int xx), .val (.int yy), .val (.int fx), .val (.int fy), .val (.int tx), .val (.int ty), .val (.double dX), .second, .val (.double dY), .second, .val (.double pX), .second, .val (.double pY), .second, .val (.double sS), .second, .val (.double tT), .second, .val (.double oX), .second, .val (.double oY), .second] [(.double (FP.dmul oX oX))]))
      refine own_on (fun t_ k_ => XS.dload X0.here hx rfl (hb hby d2_116) rfl k_) ?_
      show OwnGo p e below s _ _ _ (s₁.setTop (mkF m 118 #[.val (.int xx), .val (.int yy), .val (.int fx), .val (.int fy), .val (.int tx), .val (.int ty), .val (.double dX), .second, .val (.double dY), .second, .val (.double pX), .second, .val (.double pY), .second, .val (.double sS), .second, .val (.double tT), .second, .val (.double oX), .second, .val (.double oY), .second] [(.double oY), (.double (FP.dmul oX oX))]))
      refine own_on (fun t_ k_ => XS.dload X0.here hx rfl (hb hby d2_118) rfl k_) ?_
      show OwnGo p e below s _ _ _ (s₁.setTop (mkF m 120 #[.val (.int xx), .val (.int yy), .val (.int fx), .val (.int fy), .val (.int tx), .val (.int ty), .val (.double dX), .second, .val (.double dY), .second, .val (.double pX), .second, .val (.double pY), .second, .val (.double sS), .second, .val (.double tT), .second, .val (.double oX), .second, .val (.double oY), .second] [(.double oY), (.double oY), (.double (FP.dmul oX oX))]))
      refine own_on (fun t_ k_ => XS.dmulS X0.here hx rfl (hb hby d2_120) rfl (own_nn rfl g6) rfl k_) ?_
      show OwnGo p e below s _ _ _ (s₁.setTop (mkF m 121 #[.val (.int xx), .val (.int yy), .val (.int fx), .val (.int fy), .val (.int tx), .val (.int ty), .val (.double dX), .second, .val (.double dY), .second, .val (.double pX), .second, .val (.double pY), .second, .val (.double sS), .second, .val (.double tT), .second, .val (.double oX), .second, .val (.double oY), .second] [(.double (FP.dmul oY oY)), (.double (FP.dmul oX oX))]))
      refine own_on (fun t_ k_ => XS.daddS X0.here hx rfl (hb hby d2_121) rfl (own_nn eR (own_dint g7).1) eR k_) ?_
      show OwnGo p e below s _ _ _ (s₁.setTop (mkF m 122 #[.val (.int xx), .val (.int yy), .val (.int fx), .val (.int fy), .val (.int tx), .val (.int ty), .val (.double dX), .second, .val (.double dY), .second, .val (.double pX), .second, .val (.double pY), .second, .val (.double sS), .second, .val (.double tT), .second, .val (.double oX), .second, .val (.double oY), .second] [(.double rR)]))
      exact own_retD X0 hx hlk Bd.returns (hb hby d2_122) e0 ⟨rR, rfl, N0, rfl, hsd⟩ (by decide) (by decide)
    · obtain ⟨fT, vT⟩ := own_qubig hdD hsS hs1 (by omega) hd (by omega) eT
      refine own_on (fun t_ k_ => XS.ddivS X0.here hx rfl (hb hby d2_62) rfl (own_nn eT fT) eT k_) ?_
      show OwnGo p e below s _ _ _ (s₁.setTop (mkF m 63 #[.val (.int xx), .val (.int yy), .val (.int fx), .val (.int fy), .val (.int tx), .val (.int ty), .val (.double dX), .second, .val (.double dY), .second, .val (.double pX), .second, .val (.double pY), .second, .val (.double sS), .second, .val (.double FP.dconst0), .second, .unset, .unset, .unset, .unset] [(.double tT)]))
      refine own_on (fun t_ k_ => XS.dstore X0.here hx rfl (hb hby d2_63) rfl (l' := #[.val (.int xx), .val (.int yy), .val (.int fx), .val (.int fy), .val (.int tx), .val (.int ty), .val (.double dX), .second, .val (.double dY), .second, .val (.double pX), .second, .val (.double pY), .second, .val (.double sS), .second, .val (.double tT), .second, .unset, .unset, .unset, .unset]) rfl k_) ?_
      show OwnGo p e below s _ _ _ (s₁.setTop (mkF m 65 #[.val (.int xx), .val (.int yy), .val (.int fx), .val (.int fy), .val (.int tx), .val (.int ty), .val (.double dX), .second, .val (.double dY), .second, .val (.double pX), .second, .val (.double pY), .second, .val (.double sS), .second, .val (.double tT), .second, .unset, .unset, .unset, .unset] []))
      refine own_on (fun t_ k_ => XS.dload X0.here hx rfl (hb hby d2_65) rfl k_) ?_
      show OwnGo p e below s _ _ _ (s₁.setTop (mkF m 67 #[.val (.int xx), .val (.int yy), .val (.int fx), .val (.int fy), .val (.int tx), .val (.int ty), .val (.double dX), .second, .val (.double dY), .second, .val (.double pX), .second, .val (.double pY), .second, .val (.double sS), .second, .val (.double tT), .second, .unset, .unset, .unset, .unset] [(.double tT)]))
      refine own_on (fun t_ k_ => XS.dconst0 X0.here hx rfl (hb hby d2_67) rfl k_) ?_
      show OwnGo p e below s _ _ _ (s₁.setTop (mkF m 68 #[.val (.int xx), .val (.int yy), .val (.int fx), .val (.int fy), .val (.int tx), .val (.int ty), .val (.double dX), .second, .val (.double dY), .second, .val (.double pX), .second, .val (.double pY), .second, .val (.double sS), .second, .val (.double tT), .second, .unset, .unset, .unset, .unset] [(.double FP.dconst0), (.double tT)]))
      refine own_on (fun t_ k_ => XS.dcmpS (v := (1 : Int32)) X0.here hx rfl (hb hby d2_68) rfl (own_vgt fT own_d0 (own_gt01 vT) _) k_) ?_
      show OwnGo p e below s _ _ _ (s₁.setTop (mkF m 69 #[.val (.int xx), .val (.int yy), .val (.int fx), .val (.int fy), .val (.int tx), .val (.int ty), .val (.double dX), .second, .val (.double dY), .second, .val (.double pX), .second, .val (.double pY), .second, .val (.double sS), .second, .val (.double tT), .second, .unset, .unset, .unset, .unset] [(.int (1 : Int32))]))
      refine own_on (fun t_ k_ => XS.ifYes X0.here hx rfl (pc0 := 69) (pc' := 76) rfl (hb hby d2_69) rfl ((if0 _ _).trans (flt (by decide : ¬ ((1 : Int32) < (0 : Int32)))).2.1) (by decide) (by decide) k_) ?_
      show OwnGo p e below s _ _ _ (s₁.setTop (mkF m 76 #[.val (.int xx), .val (.int yy), .val (.int fx), .val (.int fy), .val (.int tx), .val (.int ty), .val (.double dX), .second, .val (.double dY), .second, .val (.double pX), .second, .val (.double pY), .second, .val (.double sS), .second, .val (.double tT), .second, .unset, .unset, .unset, .unset] []))
      refine own_on (fun t_ k_ => XS.dload X0.here hx rfl (hb hby d2_76) rfl k_) ?_
      show OwnGo p e below s _ _ _ (s₁.setTop (mkF m 78 #[.val (.int xx), .val (.int yy), .val (.int fx), .val (.int fy), .val (.int tx), .val (.int ty), .val (.double dX), .second, .val (.double dY), .second, .val (.double pX), .second, .val (.double pY), .second, .val (.double sS), .second, .val (.double tT), .second, .unset, .unset, .unset, .unset] [(.double tT)]))
      refine own_on (fun t_ k_ => XS.dconst1 X0.here hx rfl (hb hby d2_78) rfl k_) ?_
      show OwnGo p e below s _ _ _ (s₁.setTop (mkF m 79 #[.val (.int xx), .val (.int yy), .val (.int fx), .val (.int fy), .val (.int tx), .val (.int ty), .val (.double dX), .second, .val (.double dY), .second, .val (.double pX), .second, .val (.double pY), .second, .val (.double sS), .second, .val (.double tT), .second, .unset, .unset, .unset, .unset] [(.double FP.dconst1), (.double tT)]))
      refine own_on (fun t_ k_ => XS.dcmpS (v := (1 : Int32)) X0.here hx rfl (hb hby d2_79) rfl (own_vgt fT own_d1 vT _) k_) ?_
      show OwnGo p e below s _ _ _ (s₁.setTop (mkF m 80 #[.val (.int xx), .val (.int yy), .val (.int fx), .val (.int fy), .val (.int tx), .val (.int ty), .val (.double dX), .second, .val (.double dY), .second, .val (.double pX), .second, .val (.double pY), .second, .val (.double sS), .second, .val (.double tT), .second, .unset, .unset, .unset, .unset] [(.int (1 : Int32))]))
      refine own_on (fun t_ k_ => XS.ifNo X0.here hx rfl (hb hby d2_80) rfl ((if0 _ _).trans (tlt (by decide : (0 : Int32) < (1 : Int32))).2.2.2) k_) ?_
      show OwnGo p e below s _ _ _ (s₁.setTop (mkF m 83 #[.val (.int xx), .val (.int yy), .val (.int fx), .val (.int fy), .val (.int tx), .val (.int ty), .val (.double dX), .second, .val (.double dY), .second, .val (.double pX), .second, .val (.double pY), .second, .val (.double sS), .second, .val (.double tT), .second, .unset, .unset, .unset, .unset] []))
      refine own_on (fun t_ k_ => XS.dconst1 X0.here hx rfl (hb hby d2_83) rfl k_) ?_
      show OwnGo p e below s _ _ _ (s₁.setTop (mkF m 84 #[.val (.int xx), .val (.int yy), .val (.int fx), .val (.int fy), .val (.int tx), .val (.int ty), .val (.double dX), .second, .val (.double dY), .second, .val (.double pX), .second, .val (.double pY), .second, .val (.double sS), .second, .val (.double tT), .second, .unset, .unset, .unset, .unset] [(.double FP.dconst1)]))
      refine own_on (fun t_ k_ => XS.goto X0.here hx rfl (pc0 := 84) (pc' := 89) rfl (hb hby d2_84) (by decide) (by decide) k_) ?_
      show OwnGo p e below s _ _ _ (s₁.setTop (mkF m 89 #[.val (.int xx), .val (.int yy), .val (.int fx), .val (.int fy), .val (.int tx), .val (.int ty), .val (.double dX), .second, .val (.double dY), .second, .val (.double pX), .second, .val (.double pY), .second, .val (.double sS), .second, .val (.double tT), .second, .unset, .unset, .unset, .unset] [(.double FP.dconst1)]))
      refine own_on (fun t_ k_ => XS.dstore X0.here hx rfl (hb hby d2_89) rfl (l' := #[.val (.int xx), .val (.int yy), .val (.int fx), .val (.int fy), .val (.int tx), .val (.int ty), .val (.double dX), .second, .val (.double dY), .second, .val (.double pX), .second, .val (.double pY), .second, .val (.double sS), .second, .val (.double FP.dconst1), .second, .unset, .unset, .unset, .unset]) rfl k_) ?_
      show OwnGo p e below s _ _ _ (s₁.setTop (mkF m 91 #[.val (.int xx), .val (.int yy), .val (.int fx), .val (.int fy), .val (.int tx), .val (.int ty), .val (.double dX), .second, .val (.double dY), .second, .val (.double pX), .second, .val (.double pY), .second, .val (.double sS), .second, .val (.double FP.dconst1), .second, .unset, .unset, .unset, .unset] []))
      obtain ⟨oX, eoX⟩ : ∃ v, FP.dsub (FP.dmul FP.dconst1 dX) pX = v := ⟨_, rfl⟩
      obtain ⟨oY, eoY⟩ : ∃ v, FP.dsub (FP.dmul FP.dconst1 dY) pY = v := ⟨_, rfl⟩
      obtain ⟨rR, eR⟩ : ∃ v, FP.dadd (FP.dmul oX oX) (FP.dmul oY oY) = v := ⟨_, rfl⟩
      obtain ⟨g1, g2, g3, g4, g5, g6, g7⟩ := own_out (i := 1) (by decide) bdX bdY bpX bpY own_d1 hdX hdY hpX hpY eoX eoY eR
      have hsd : own_sd xx yy fx fy tx ty rR := by unfold own_sd own_SD; exact ⟨fun q => absurd q (by omega), fun _ _ => g7, fun _ q => absurd q (by omega)⟩
      refine own_on (fun t_ k_ => XS.dload X0.here hx rfl (hb hby d2_91) rfl k_) ?_
      show OwnGo p e below s _ _ _ (s₁.setTop (mkF m 93 #[.val (.int xx), .val (.int yy), .val (.int fx), .val (.int fy), .val (.int tx), .val (.int ty), .val (.double dX), .second, .val (.double dY), .second, .val (.double pX), .second, .val (.double pY), .second, .val (.double sS), .second, .val (.double FP.dconst1), .second, .unset, .unset, .unset, .unset] [(.double FP.dconst1)]))
      refine own_on (fun t_ k_ => XS.dload X0.here hx rfl (hb hby d2_93) rfl k_) ?_
      show OwnGo p e below s _ _ _ (s₁.setTop (mkF m 95 #[.val (.int xx), .val (.int yy), .val (.int fx), .val (.int fy), .val (.int tx), .val (.int ty), .val (.double dX), .second, .val (.double dY), .second, .val (.double pX), .second, .val (.double pY), .second, .val (.double sS), .second, .val (.double FP.dconst1), .second, .unset, .unset, .unset, .unset] [(.double dX), (.double FP.dconst1)]))
      refine own_on (fun t_ k_ => XS.dmulS X0.here hx rfl (hb hby d2_95) rfl (own_nn rfl g1) rfl k_) ?_
      show OwnGo p e below s _ _ _ (s₁.setTop (mkF m 96 #[.val (.int xx), .val (.int yy), .val (.int fx), .val (.int fy), .val (.int tx), .val (.int ty), .val (.double dX), .second, .val (.double dY), .second, .val (.double pX), .second, .val (.double pY), .second, .val (.double sS), .second, .val (.double FP.dconst1), .second, .unset, .unset, .unset, .unset] [(.double (FP.dmul FP.dconst1 dX))]))
      refine own_on (fun t_ k_ => XS.dload X0.here hx rfl (hb hby d2_96) rfl k_) ?_
      show OwnGo p e below s _ _ _ (s₁.setTop (mkF m 98 #[.val (.int xx), .val (.int yy), .val (.int fx), .val (.int fy), .val (.int tx), .val (.int ty), .val (.double dX), .second, .val (.double dY), .second, .val (.double pX), .second, .val (.double pY), .second, .val (.double sS), .second, .val (.double FP.dconst1), .second, .unset, .unset, .unset, .unset] [(.double pX), (.double (FP.dmul FP.dconst1 dX))]))
      refine own_on (fun t_ k_ => XS.dsubS X0.here hx rfl (hb hby d2_98) rfl (own_nn eoX g2) eoX k_) ?_
      show OwnGo p e below s _ _ _ (s₁.setTop (mkF m 99 #[.val (.int xx), .val (.int yy), .val (.int fx), .val (.int fy), .val (.int tx), .val (.int ty), .val (.double dX), .second, .val (.double dY), .second, .val (.double pX), .second, .val (.double pY), .second, .val (.double sS), .second, .val (.double FP.dconst1), .second, .unset, .unset, .unset, .unset] [(.double oX)]))
      refine own_on (fun t_ k_ => XS.dstore X0.here hx rfl (hb hby d2_99) rfl (l' := #[.val (.int xx), .val (.int yy), .val (.int fx), .val (.int fy), .val (.int tx), .val (.int ty), .val (.double dX), .second, .val (.double dY), .second, .val (.double pX), .second, .val (.double pY), .second, .val (.double sS), .second, .val (.double FP.dconst1), .second, .val (.double oX), .second, .unset, .unset]) rfl k_) ?_
      show OwnGo p e below s _ _ _ (s₁.setTop (mkF m 101 #[.val (.int xx), .val (.int yy), .val (.int fx), .val (.int fy), .val (.int tx), .val (.int ty), .val (.double dX), .second, .val (.double dY), .second, .val (.double pX), .second, .val (.double pY), .second, .val (.double sS), .second, .val (.double FP.dconst1), .second, .val (.double oX), .second, .unset, .unset] []))
      refine own_on (fun t_ k_ => XS.dload X0.here hx rfl (hb hby d2_101) rfl k_) ?_
      show OwnGo p e below s _ _ _ (s₁.setTop (mkF m 103 #[.val (.int xx), .val (.int yy), .val (.int fx), .val (.int fy), .val (.int tx), .val (.int ty), .val (.double dX), .second, .val (.double dY), .second, .val (.double pX), .second, .val (.double pY), .second, .val (.double sS), .second, .val (.double FP.dconst1), .second, .val (.double oX), .second, .unset, .unset] [(.double FP.dconst1)]))
      refine own_on (fun t_ k_ => XS.dload X0.here hx rfl (hb hby d2_103) rfl k_) ?_
      show OwnGo p e below s _ _ _ (s₁.setTop (mkF m 105 #[.val (.int xx), .val (.int yy), .val (.int fx), .val (.int fy), .val (.int tx), .val (.int ty), .val (.double dX), .second, .val (.double dY), .second, .val (.double pX), .second, .val (.double pY), .second, .val (.double sS), .second, .val (.double FP.dconst1), .second, .val (.double oX), .second, .unset, .unset] [(.double dY), (.double FP.dconst1)]))
      refine own_on (fun t_ k_ => XS.dmulS X0.here hx rfl (hb hby d2_105) rfl (own_nn rfl g3) rfl k_) ?_
      show OwnGo p e below s _ _ _ (s₁.setTop (mkF m 106 #[.val (.int xx), .val (.int yy), .val (.int fx), .val (.int fy), .val (.int tx), .val (.int ty), .val (.double dX), .second, .val (.double dY), .second, .val (.double pX), .second, .val (.double pY), .second, .val (.double sS), .second, .val (.double FP.dconst1), .second, .val (.double oX), .second, .unset, .unset] [(.double (FP.dmul FP.dconst1 dY))]))
      refine own_on (fun t_ k_ => XS.dload X0.here hx rfl (hb hby d2_106) rfl k_) ?_
      show OwnGo p e below s _ _ _ (s₁.setTop (mkF m 108 #[.val (.int xx), .val (.int yy), .val (.int fx), .val (.int fy), .val (.int tx), .val (.int ty), .val (.double dX), .second, .val (.double dY), .second, .val (.double pX), .second, .val (.double pY), .second, .val (.double sS), .second, .val (.double FP.dconst1), .second, .val (.double oX), .second, .unset, .unset] [(.double pY), (.double (FP.dmul FP.dconst1 dY))]))
      refine own_on (fun t_ k_ => XS.dsubS X0.here hx rfl (hb hby d2_108) rfl (own_nn eoY g4) eoY k_) ?_
      show OwnGo p e below s _ _ _ (s₁.setTop (mkF m 109 #[.val (.int xx), .val (.int yy), .val (.int fx), .val (.int fy), .val (.int tx), .val (.int ty), .val (.double dX), .second, .val (.double dY), .second, .val (.double pX), .second, .val (.double pY), .second, .val (.double sS), .second, .val (.double FP.dconst1), .second, .val (.double oX), .second, .unset, .unset] [(.double oY)]))
      refine own_on (fun t_ k_ => XS.dstore X0.here hx rfl (hb hby d2_109) rfl (l' := #[.val (.int xx), .val (.int yy), .val (.int fx), .val (.int fy), .val (.int tx), .val (.int ty), .val (.double dX), .second, .val (.double dY), .second, .val (.double pX), .second, .val (.double pY), .second, .val (.double sS), .second, .val (.double FP.dconst1), .second, .val (.double oX), .second, .val (.double oY), .second]) rfl k_) ?_
      show OwnGo p e below s _ _ _ (s₁.setTop (mkF m 111 #[.val (.int xx), .val (.int yy), .val (.int fx), .val (.int fy), .val (.int tx), .val (.int ty), .val (.double dX), .second, .val (.double dY), .second, .val (.double pX), .second, .val (.double pY), .second, .val (.double sS), .second, .val (.double FP.dconst1), .second, .val (.double oX), .second, .val (.double oY), .second] []))
      refine own_on (fun t_ k_ => XS.dload X0.here hx rfl (hb hby d2_111) rfl k_) ?_
      show OwnGo p e below s _ _ _ (s₁.setTop (mkF m 113 #[.val (.int xx), .val (.int yy), .val (.int fx), .val (.int fy), .val (.int tx), .val (.int ty), .val (.double dX), .second, .val (.double dY), .second, .val (.double pX), .second, .val (.double pY), .second, .val (.double sS), .second, .val (.double FP.dconst1), .second, .val (.double oX), .second, .val (.double oY), .second] [(.double oX)]))
      refine own_on (fun t_ k_ => XS.dload X0.here hx rfl (hb hby d2_113) rfl k_) ?_
      show OwnGo p e below s _ _ _ (s₁.setTop (mkF m 115 #[.val (.int xx), .val (.int yy), .val (.int fx), .val (.int fy), .val (.int tx), .val (.int ty), .val (.double dX), .second, .val (.double dY), .second, .val (.double pX), .second, .val (.double pY), .second, .val (.double sS), .second, .val (.double FP.dconst1), .second, .val (.double oX), .second, .val (.double oY), .second] [(.double oX), (.double oX)]))
      refine own_on (fun t_ k_ => XS.dmulS X0.here hx rfl (hb hby d2_115) rfl (own_nn rfl g5) rfl k_) ?_
      show OwnGo p e below s _ _ _ (s₁.setTop (mkF m 116 #[.val (.int xx), .val (.int yy), .val (.int fx), .val (.int fy), .val (.int tx), .val (.int ty), .val (.double dX), .second, .val (.double dY), .second, .val (.double pX), .second, .val (.double pY), .second, .val (.double sS), .second, .val (.double FP.dconst1), .second, .val (.double oX), .second, .val (.double oY), .second] [(.double (FP.dmul oX oX))]))
      refine own_on (fun t_ k_ => XS.dload X0.here hx rfl (hb hby d2_116) rfl k_) ?_
      show OwnGo p e below s _ _ _ (s₁.setTop (mkF m 118 #[.val (.int xx), .val (.int yy), .val (.int fx), .val (.int fy), .val (.int tx), .val (.int ty), .val (.double dX), .second, .val (.double dY), .second, .val (.double pX), .second, .val (.double pY), .second, .val (.double sS), .second, .val (.double FP.dconst1), .second, .val (.double oX), .second, .val (.double oY), .second] [(.double oY), (.double (FP.dmul oX oX))]))
      refine own_on (fun t_ k_ => XS.dload X0.here hx rfl (hb hby d2_118) rfl k_) ?_
      show OwnGo p e below s _ _ _ (s₁.setTop (mkF m 120 #[.val (.int xx), .val (.int yy), .val (.int fx), .val (.int fy), .val (.int tx), .val (.int ty), .val (.double dX), .second, .val (.double dY), .second, .val (.double pX), .second, .val (.double pY), .second, .val (.double sS), .second, .val (.double FP.dconst1), .second, .val (.double oX), .second, .val (.double oY), .second] [(.double oY), (.double oY), (.double (FP.dmul oX oX))]))
      refine own_on (fun t_ k_ => XS.dmulS X0.here hx rfl (hb hby d2_120) rfl (own_nn rfl g6) rfl k_) ?_
      show OwnGo p e below s _ _ _ (s₁.setTop (mkF m 121 #[.val (.int xx), .val (.int yy), .val (.int fx), .val (.int fy), .val (.int tx), .val (.int ty), .val (.double dX), .second, .val (.double dY), .second, .val (.double pX), .second, .val (.double pY), .second, .val (.double sS), .second, .val (.double FP.dconst1), .second, .val (.double oX), .second, .val (.double oY), .second] [(.double (FP.dmul oY oY)), (.double (FP.dmul oX oX))]))
      refine own_on (fun t_ k_ => XS.daddS X0.here hx rfl (hb hby d2_121) rfl (own_nn eR (own_dint g7).1) eR k_) ?_
      show OwnGo p e below s _ _ _ (s₁.setTop (mkF m 122 #[.val (.int xx), .val (.int yy), .val (.int fx), .val (.int fy), .val (.int tx), .val (.int ty), .val (.double dX), .second, .val (.double dY), .second, .val (.double pX), .second, .val (.double pY), .second, .val (.double sS), .second, .val (.double FP.dconst1), .second, .val (.double oX), .second, .val (.double oY), .second] [(.double rR)]))
      exact own_retD X0 hx hlk Bd.returns (hb hby d2_122) e0 ⟨rR, rfl, N0, rfl, hsd⟩ (by decide) (by decide)
theorem ef_0 (m : MethodId) (x1 : Int32) (x2 : Int32) (x3 : Int32) (x4 : Int32) (x5 : Int32) (x6 : Int32)  : entryFrame m #[(.int x1), (.int x2), (.int x3), (.int x4), (.int x5), (.int x6)] maxLocals = mkF m 0 #[.val (.int x1), .val (.int x2), .val (.int x3), .val (.int x4), .val (.int x5), .val (.int x6), .unset, .unset, .unset, .unset, .unset, .unset, .unset, .unset, .unset, .unset, .unset, .unset, .unset, .unset, .unset, .unset, .unset, .unset, .unset, .unset, .unset, .unset, .unset, .unset, .unset, .unset, .unset, .unset] [] := by first | (simp [entryFrame, mkF, argsToLocals, Value.category, maxLocals]; done) | rfl
def Q0 (Z : State) (x1 : Int32) (x2 : Int32) (x3 : Int32) (x4 : Int32) (x5 : Int32) (x6 : Int32) (h0 : Heap) (n0 : Nat) (v_ : Option Value) (h_ : Heap) (L_ : List Loc) : Prop := v_ = some (.int (1 : Int32)) ∧ Fr n0 L_ ∧ h_ = h0
set_option maxRecDepth 65536 in
set_option maxHeartbeats 40000000 in
theorem rm0 (l : Launch) (Z : State) (a0 : Array Value) (hw : ∀ d ∈ tables_1, d.before a0 Z = true) (ws : List Jvm.Cond) (x1 : Int32) (x2 : Int32) (x3 : Int32) (x4 : Int32) (x5 : Int32) (x6 : Int32) (h0 : Heap) (n0 : Nat) (Z0 : n0 ≤ h0.size)  :
    MetFree l x (head1 (Jvm.Cond.code x code maxLocals ret :: ws) room_1) (fun A_ U => A_ = #[(.int x1), (.int x2), (.int x3), (.int x4), (.int x5), (.int x6)] ∧ Z.Warmed39 U.vm ∧ U.heap = h0) (fun _ _ _ _ _ => True) (fun _ U_ o_ U'_ => ∃ v_ L_, o_ = .returned v_ ∧ Q0 Z x1 x2 x3 x4 x5 x6 h0 n0 v_ U'_.heap L_ ∧ FrameEnd U_ o_ U'_ L_ room_1.cells room_1.slots) := by
  refine MetFree.of_bodySF (plainFor_of_name pn_0) hisR ?_
  intro p e s m args below meth c s₁ Bd hml0 hP hK
  obtain ⟨rfl, hZ, hh⟩ := hP
  have hx := Bd.exec
  have hby := Bd.bytes
  have hml : c.maxLocals = 34 := hml0
  have hown : s.vm.findClass "org/tempochart/observer/PointGridSquaredDistancePinLaw" = some m.cls := findClass_of_methodNamed Bd.named
  have hnm := (name_of_methodNamed Bd.named Bd.method).1
  have hlk : meth.locks = false := Bd.notSynchronized
  have X0 : Stand p l e room_1 s m #[(.int x1), (.int x2), (.int x3), (.int x4), (.int x5), (.int x6)] below meth c s₁ [] 0 0 := Stand.of_body Bd
  have e0 : s₁.heap = h0 := by rw [← hh, Bd.state]; rfl
  have N0 := Fr.nil n0
  have K0 : Keep h0 h0 [] := Keep.refl _ _
  refine own_cast (ef_0 m x1 x2 x3 x4 x5 x6) ?_
  show OwnGo p e below s (Q0 Z x1 x2 x3 x4 x5 x6 h0 n0) room_1.cells room_1.slots (s₁.setTop (mkF m 0 #[.val (.int x1), .val (.int x2), .val (.int x3), .val (.int x4), .val (.int x5), .val (.int x6), .unset, .unset, .unset, .unset, .unset, .unset, .unset, .unset, .unset, .unset, .unset, .unset, .unset, .unset, .unset, .unset, .unset, .unset, .unset, .unset, .unset, .unset, .unset, .unset, .unset, .unset, .unset, .unset] []))
  refine own_on (fun t_ k_ => XS.iloadN X0.here hx rfl (hb hby at_0) rfl k_) ?_
  show OwnGo p e below s _ _ _ (s₁.setTop (mkF m 1 #[.val (.int x1), .val (.int x2), .val (.int x3), .val (.int x4), .val (.int x5), .val (.int x6), .unset, .unset, .unset, .unset, .unset, .unset, .unset, .unset, .unset, .unset, .unset, .unset, .unset, .unset, .unset, .unset, .unset, .unset, .unset, .unset, .unset, .unset, .unset, .unset, .unset, .unset, .unset, .unset] [(.int x1)]))
  obtain ⟨_, _, ⟨T1, L1, k1, n1⟩, -, X1, ⟨Lc1, hQ1, l1, y1, z1⟩, st1⟩ := Jvm.LawKit.callS X0 hx (y := (⟨"org/tempochart/observer/PointGridSquaredDistancePinLaw", "coord", "(I)I"⟩ : MethodName)) hown (mvT hZ (w0 hw)) (mvT hZ (w1 hw)) (mvT hZ (w2 hw)) (mvT hZ (w3 hw)) (by decide) (backOf (W := 0) (rm1 l Z a0 hw [] x1 h0 n0 Z0 ) hZ (w3 hw) (w2 hw) (by decide) (by decide)) (g := (mkF m 1 #[.val (.int x1), .val (.int x2), .val (.int x3), .val (.int x4), .val (.int x5), .val (.int x6), .unset, .unset, .unset, .unset, .unset, .unset, .unset, .unset, .unset, .unset, .unset, .unset, .unset, .unset, .unset, .unset, .unset, .unset, .unset, .unset, .unset, .unset, .unset, .unset, .unset, .unset, .unset, .unset] [(.int x1)])) rfl (by rw [hml]; rfl) (argsL := [(.int x1)]) (rest := []) (lenOf pd_0 rfl) rfl (by show 2 * 0 + _ ≤ _; exact Nat.le_of_eq rfl) (hb hby at_1) (fun _ hWx => ⟨rfl, e0, (by decide : 0 + 0 ≤ _), (by decide : 0 + 0 ≤ _)⟩)
  dsimp only [Pt.U, Pt.locs, Pt.cells, Pt.slots] at X1 l1 y1 z1 st1 hQ1
  replace X1 := own_num (c' := 0) (n' := 0) X1 l1 (y1.trans rfl) (z1.trans rfl)
  obtain ⟨r_1, rfl, N1q, e1, c1_0⟩ := hQ1
  have N1 := Fr.app N0 N1q
  refine own_on st1 ?_
  show OwnGo p e below s _ _ _ (T1.setTop (mkF m 4 #[.val (.int x1), .val (.int x2), .val (.int x3), .val (.int x4), .val (.int x5), .val (.int x6), .unset, .unset, .unset, .unset, .unset, .unset, .unset, .unset, .unset, .unset, .unset, .unset, .unset, .unset, .unset, .unset, .unset, .unset, .unset, .unset, .unset, .unset, .unset, .unset, .unset, .unset, .unset, .unset] [(.int r_1)]))
  refine own_on (fun t_ k_ => XS.istore X1.here hx rfl (hb hby at_4) rfl (l' := #[.val (.int x1), .val (.int x2), .val (.int x3), .val (.int x4), .val (.int x5), .val (.int x6), .val (.int r_1), .unset, .unset, .unset, .unset, .unset, .unset, .unset, .unset, .unset, .unset, .unset, .unset, .unset, .unset, .unset, .unset, .unset, .unset, .unset, .unset, .unset, .unset, .unset, .unset, .unset, .unset, .unset]) rfl k_) ?_
  show OwnGo p e below s _ _ _ (T1.setTop (mkF m 6 #[.val (.int x1), .val (.int x2), .val (.int x3), .val (.int x4), .val (.int x5), .val (.int x6), .val (.int r_1), .unset, .unset, .unset, .unset, .unset, .unset, .unset, .unset, .unset, .unset, .unset, .unset, .unset, .unset, .unset, .unset, .unset, .unset, .unset, .unset, .unset, .unset, .unset, .unset, .unset, .unset, .unset] []))
  refine own_on (fun t_ k_ => XS.iloadN X1.here hx rfl (hb hby at_6) rfl k_) ?_
  show OwnGo p e below s _ _ _ (T1.setTop (mkF m 7 #[.val (.int x1), .val (.int x2), .val (.int x3), .val (.int x4), .val (.int x5), .val (.int x6), .val (.int r_1), .unset, .unset, .unset, .unset, .unset, .unset, .unset, .unset, .unset, .unset, .unset, .unset, .unset, .unset, .unset, .unset, .unset, .unset, .unset, .unset, .unset, .unset, .unset, .unset, .unset, .unset, .unset] [(.int x2)]))
  obtain ⟨_, _, ⟨T2, L2, k2, n2⟩, -, X2, ⟨Lc2, hQ2, l2, y2, z2⟩, st2⟩ := Jvm.LawKit.callS X1 hx (y := (⟨"org/tempochart/observer/PointGridSquaredDistancePinLaw", "coord", "(I)I"⟩ : MethodName)) hown (mvT hZ (w0 hw)) (mvT hZ (w1 hw)) (mvT hZ (w2 hw)) (mvT hZ (w3 hw)) (by decide) (backOf (W := 0) (rm1 l Z a0 hw [] x2 h0 n0 Z0 ) hZ (w3 hw) (w2 hw) (by decide) (by decide)) (g := (mkF m 7 #[.val (.int x1), .val (.int x2), .val (.int x3), .val (.int x4), .val (.int x5), .val (.int x6), .val (.int r_1), .unset, .unset, .unset, .unset, .unset, .unset, .unset, .unset, .unset, .unset, .unset, .unset, .unset, .unset, .unset, .unset, .unset, .unset, .unset, .unset, .unset, .unset, .unset, .unset, .unset, .unset, .unset] [(.int x2)])) rfl (by rw [hml]; rfl) (argsL := [(.int x2)]) (rest := []) (lenOf pd_0 rfl) rfl (by show 2 * 0 + _ ≤ _; exact Nat.le_of_eq rfl) (hb hby at_7) (fun _ hWx => ⟨rfl, e1, (by decide : 0 + 0 ≤ _), (by decide : 0 + 0 ≤ _)⟩)
  dsimp only [Pt.U, Pt.locs, Pt.cells, Pt.slots] at X2 l2 y2 z2 st2 hQ2
  replace X2 := own_num (c' := 0) (n' := 0) X2 l2 (y2.trans rfl) (z2.trans rfl)
  obtain ⟨r_2, rfl, N2q, e2, c2_0⟩ := hQ2
  have N2 := Fr.app N1 N2q
  refine own_on st2 ?_
  show OwnGo p e below s _ _ _ (T2.setTop (mkF m 10 #[.val (.int x1), .val (.int x2), .val (.int x3), .val (.int x4), .val (.int x5), .val (.int x6), .val (.int r_1), .unset, .unset, .unset, .unset, .unset, .unset, .unset, .unset, .unset, .unset, .unset, .unset, .unset, .unset, .unset, .unset, .unset, .unset, .unset, .unset, .unset, .unset, .unset, .unset, .unset, .unset, .unset] [(.int r_2)]))
  refine own_on (fun t_ k_ => XS.istore X2.here hx rfl (hb hby at_10) rfl (l' := #[.val (.int x1), .val (.int x2), .val (.int x3), .val (.int x4), .val (.int x5), .val (.int x6), .val (.int r_1), .val (.int r_2), .unset, .unset, .unset, .unset, .unset, .unset, .unset, .unset, .unset, .unset, .unset, .unset, .unset, .unset, .unset, .unset, .unset, .unset, .unset, .unset, .unset, .unset, .unset, .unset, .unset, .unset]) rfl k_) ?_
  show OwnGo p e below s _ _ _ (T2.setTop (mkF m 12 #[.val (.int x1), .val (.int x2), .val (.int x3), .val (.int x4), .val (.int x5), .val (.int x6), .val (.int r_1), .val (.int r_2), .unset, .unset, .unset, .unset, .unset, .unset, .unset, .unset, .unset, .unset, .unset, .unset, .unset, .unset, .unset, .unset, .unset, .unset, .unset, .unset, .unset, .unset, .unset, .unset, .unset, .unset] []))
  refine own_on (fun t_ k_ => XS.iloadN X2.here hx rfl (hb hby at_12) rfl k_) ?_
  show OwnGo p e below s _ _ _ (T2.setTop (mkF m 13 #[.val (.int x1), .val (.int x2), .val (.int x3), .val (.int x4), .val (.int x5), .val (.int x6), .val (.int r_1), .val (.int r_2), .unset, .unset, .unset, .unset, .unset, .unset, .unset, .unset, .unset, .unset, .unset, .unset, .unset, .unset, .unset, .unset, .unset, .unset, .unset, .unset, .unset, .unset, .unset, .unset, .unset, .unset] [(.int x3)]))
  obtain ⟨_, _, ⟨T3, L3, k3, n3⟩, -, X3, ⟨Lc3, hQ3, l3, y3, z3⟩, st3⟩ := Jvm.LawKit.callS X2 hx (y := (⟨"org/tempochart/observer/PointGridSquaredDistancePinLaw", "coord", "(I)I"⟩ : MethodName)) hown (mvT hZ (w0 hw)) (mvT hZ (w1 hw)) (mvT hZ (w2 hw)) (mvT hZ (w3 hw)) (by decide) (backOf (W := 0) (rm1 l Z a0 hw [] x3 h0 n0 Z0 ) hZ (w3 hw) (w2 hw) (by decide) (by decide)) (g := (mkF m 13 #[.val (.int x1), .val (.int x2), .val (.int x3), .val (.int x4), .val (.int x5), .val (.int x6), .val (.int r_1), .val (.int r_2), .unset, .unset, .unset, .unset, .unset, .unset, .unset, .unset, .unset, .unset, .unset, .unset, .unset, .unset, .unset, .unset, .unset, .unset, .unset, .unset, .unset, .unset, .unset, .unset, .unset, .unset] [(.int x3)])) rfl (by rw [hml]; rfl) (argsL := [(.int x3)]) (rest := []) (lenOf pd_0 rfl) rfl (by show 2 * 0 + _ ≤ _; exact Nat.le_of_eq rfl) (hb hby at_13) (fun _ hWx => ⟨rfl, e2, (by decide : 0 + 0 ≤ _), (by decide : 0 + 0 ≤ _)⟩)
  dsimp only [Pt.U, Pt.locs, Pt.cells, Pt.slots] at X3 l3 y3 z3 st3 hQ3
  replace X3 := own_num (c' := 0) (n' := 0) X3 l3 (y3.trans rfl) (z3.trans rfl)
  obtain ⟨r_3, rfl, N3q, e3, c3_0⟩ := hQ3
  have N3 := Fr.app N2 N3q
  refine own_on st3 ?_
  show OwnGo p e below s _ _ _ (T3.setTop (mkF m 16 #[.val (.int x1), .val (.int x2), .val (.int x3), .val (.int x4), .val (.int x5), .val (.int x6), .val (.int r_1), .val (.int r_2), .unset, .unset, .unset, .unset, .unset, .unset, .unset, .unset, .unset, .unset, .unset, .unset, .unset, .unset, .unset, .unset, .unset, .unset, .unset, .unset, .unset, .unset, .unset, .unset, .unset, .unset] [(.int r_3)]))
  refine own_on (fun t_ k_ => XS.istore X3.here hx rfl (hb hby at_16) rfl (l' := #[.val (.int x1), .val (.int x2), .val (.int x3), .val (.int x4), .val (.int x5), .val (.int x6), .val (.int r_1), .val (.int r_2), .val (.int r_3), .unset, .unset, .unset, .unset, .unset, .unset, .unset, .unset, .unset, .unset, .unset, .unset, .unset, .unset, .unset, .unset, .unset, .unset, .unset, .unset, .unset, .unset, .unset, .unset, .unset]) rfl k_) ?_
  show OwnGo p e below s _ _ _ (T3.setTop (mkF m 18 #[.val (.int x1), .val (.int x2), .val (.int x3), .val (.int x4), .val (.int x5), .val (.int x6), .val (.int r_1), .val (.int r_2), .val (.int r_3), .unset, .unset, .unset, .unset, .unset, .unset, .unset, .unset, .unset, .unset, .unset, .unset, .unset, .unset, .unset, .unset, .unset, .unset, .unset, .unset, .unset, .unset, .unset, .unset, .unset] []))
  refine own_on (fun t_ k_ => XS.iloadN X3.here hx rfl (hb hby at_18) rfl k_) ?_
  show OwnGo p e below s _ _ _ (T3.setTop (mkF m 19 #[.val (.int x1), .val (.int x2), .val (.int x3), .val (.int x4), .val (.int x5), .val (.int x6), .val (.int r_1), .val (.int r_2), .val (.int r_3), .unset, .unset, .unset, .unset, .unset, .unset, .unset, .unset, .unset, .unset, .unset, .unset, .unset, .unset, .unset, .unset, .unset, .unset, .unset, .unset, .unset, .unset, .unset, .unset, .unset] [(.int x4)]))
  obtain ⟨_, _, ⟨T4, L4, k4, n4⟩, -, X4, ⟨Lc4, hQ4, l4, y4, z4⟩, st4⟩ := Jvm.LawKit.callS X3 hx (y := (⟨"org/tempochart/observer/PointGridSquaredDistancePinLaw", "coord", "(I)I"⟩ : MethodName)) hown (mvT hZ (w0 hw)) (mvT hZ (w1 hw)) (mvT hZ (w2 hw)) (mvT hZ (w3 hw)) (by decide) (backOf (W := 0) (rm1 l Z a0 hw [] x4 h0 n0 Z0 ) hZ (w3 hw) (w2 hw) (by decide) (by decide)) (g := (mkF m 19 #[.val (.int x1), .val (.int x2), .val (.int x3), .val (.int x4), .val (.int x5), .val (.int x6), .val (.int r_1), .val (.int r_2), .val (.int r_3), .unset, .unset, .unset, .unset, .unset, .unset, .unset, .unset, .unset, .unset, .unset, .unset, .unset, .unset, .unset, .unset, .unset, .unset, .unset, .unset, .unset, .unset, .unset, .unset, .unset] [(.int x4)])) rfl (by rw [hml]; rfl) (argsL := [(.int x4)]) (rest := []) (lenOf pd_0 rfl) rfl (by show 2 * 0 + _ ≤ _; exact Nat.le_of_eq rfl) (hb hby at_19) (fun _ hWx => ⟨rfl, e3, (by decide : 0 + 0 ≤ _), (by decide : 0 + 0 ≤ _)⟩)
  dsimp only [Pt.U, Pt.locs, Pt.cells, Pt.slots] at X4 l4 y4 z4 st4 hQ4
  replace X4 := own_num (c' := 0) (n' := 0) X4 l4 (y4.trans rfl) (z4.trans rfl)
  obtain ⟨r_4, rfl, N4q, e4, c4_0⟩ := hQ4
  have N4 := Fr.app N3 N4q
  refine own_on st4 ?_
  show OwnGo p e below s _ _ _ (T4.setTop (mkF m 22 #[.val (.int x1), .val (.int x2), .val (.int x3), .val (.int x4), .val (.int x5), .val (.int x6), .val (.int r_1), .val (.int r_2), .val (.int r_3), .unset, .unset, .unset, .unset, .unset, .unset, .unset, .unset, .unset, .unset, .unset, .unset, .unset, .unset, .unset, .unset, .unset, .unset, .unset, .unset, .unset, .unset, .unset, .unset, .unset] [(.int r_4)]))
  refine own_on (fun t_ k_ => XS.istore X4.here hx rfl (hb hby at_22) rfl (l' := #[.val (.int x1), .val (.int x2), .val (.int x3), .val (.int x4), .val (.int x5), .val (.int x6), .val (.int r_1), .val (.int r_2), .val (.int r_3), .val (.int r_4), .unset, .unset, .unset, .unset, .unset, .unset, .unset, .unset, .unset, .unset, .unset, .unset, .unset, .unset, .unset, .unset, .unset, .unset, .unset, .unset, .unset, .unset, .unset, .unset]) rfl k_) ?_
  show OwnGo p e below s _ _ _ (T4.setTop (mkF m 24 #[.val (.int x1), .val (.int x2), .val (.int x3), .val (.int x4), .val (.int x5), .val (.int x6), .val (.int r_1), .val (.int r_2), .val (.int r_3), .val (.int r_4), .unset, .unset, .unset, .unset, .unset, .unset, .unset, .unset, .unset, .unset, .unset, .unset, .unset, .unset, .unset, .unset, .unset, .unset, .unset, .unset, .unset, .unset, .unset, .unset] []))
  refine own_on (fun t_ k_ => XS.iload X4.here hx rfl (hb hby at_24) rfl k_) ?_
  show OwnGo p e below s _ _ _ (T4.setTop (mkF m 26 #[.val (.int x1), .val (.int x2), .val (.int x3), .val (.int x4), .val (.int x5), .val (.int x6), .val (.int r_1), .val (.int r_2), .val (.int r_3), .val (.int r_4), .unset, .unset, .unset, .unset, .unset, .unset, .unset, .unset, .unset, .unset, .unset, .unset, .unset, .unset, .unset, .unset, .unset, .unset, .unset, .unset, .unset, .unset, .unset, .unset] [(.int x5)]))
  obtain ⟨_, _, ⟨T5, L5, k5, n5⟩, -, X5, ⟨Lc5, hQ5, l5, y5, z5⟩, st5⟩ := Jvm.LawKit.callS X4 hx (y := (⟨"org/tempochart/observer/PointGridSquaredDistancePinLaw", "coord", "(I)I"⟩ : MethodName)) hown (mvT hZ (w0 hw)) (mvT hZ (w1 hw)) (mvT hZ (w2 hw)) (mvT hZ (w3 hw)) (by decide) (backOf (W := 0) (rm1 l Z a0 hw [] x5 h0 n0 Z0 ) hZ (w3 hw) (w2 hw) (by decide) (by decide)) (g := (mkF m 26 #[.val (.int x1), .val (.int x2), .val (.int x3), .val (.int x4), .val (.int x5), .val (.int x6), .val (.int r_1), .val (.int r_2), .val (.int r_3), .val (.int r_4), .unset, .unset, .unset, .unset, .unset, .unset, .unset, .unset, .unset, .unset, .unset, .unset, .unset, .unset, .unset, .unset, .unset, .unset, .unset, .unset, .unset, .unset, .unset, .unset] [(.int x5)])) rfl (by rw [hml]; rfl) (argsL := [(.int x5)]) (rest := []) (lenOf pd_0 rfl) rfl (by show 2 * 0 + _ ≤ _; exact Nat.le_of_eq rfl) (hb hby at_26) (fun _ hWx => ⟨rfl, e4, (by decide : 0 + 0 ≤ _), (by decide : 0 + 0 ≤ _)⟩)
  dsimp only [Pt.U, Pt.locs, Pt.cells, Pt.slots] at X5 l5 y5 z5 st5 hQ5
  replace X5 := own_num (c' := 0) (n' := 0) X5 l5 (y5.trans rfl) (z5.trans rfl)
  obtain ⟨r_5, rfl, N5q, e5, c5_0⟩ := hQ5
  have N5 := Fr.app N4 N5q
  refine own_on st5 ?_
  show OwnGo p e below s _ _ _ (T5.setTop (mkF m 29 #[.val (.int x1), .val (.int x2), .val (.int x3), .val (.int x4), .val (.int x5), .val (.int x6), .val (.int r_1), .val (.int r_2), .val (.int r_3), .val (.int r_4), .unset, .unset, .unset, .unset, .unset, .unset, .unset, .unset, .unset, .unset, .unset, .unset, .unset, .unset, .unset, .unset, .unset, .unset, .unset, .unset, .unset, .unset, .unset, .unset] [(.int r_5)]))
  refine own_on (fun t_ k_ => XS.istore X5.here hx rfl (hb hby at_29) rfl (l' := #[.val (.int x1), .val (.int x2), .val (.int x3), .val (.int x4), .val (.int x5), .val (.int x6), .val (.int r_1), .val (.int r_2), .val (.int r_3), .val (.int r_4), .val (.int r_5), .unset, .unset, .unset, .unset, .unset, .unset, .unset, .unset, .unset, .unset, .unset, .unset, .unset, .unset, .unset, .unset, .unset, .unset, .unset, .unset, .unset, .unset, .unset]) rfl k_) ?_
  show OwnGo p e below s _ _ _ (T5.setTop (mkF m 31 #[.val (.int x1), .val (.int x2), .val (.int x3), .val (.int x4), .val (.int x5), .val (.int x6), .val (.int r_1), .val (.int r_2), .val (.int r_3), .val (.int r_4), .val (.int r_5), .unset, .unset, .unset, .unset, .unset, .unset, .unset, .unset, .unset, .unset, .unset, .unset, .unset, .unset, .unset, .unset, .unset, .unset, .unset, .unset, .unset, .unset, .unset] []))
  refine own_on (fun t_ k_ => XS.iload X5.here hx rfl (hb hby at_31) rfl k_) ?_
  show OwnGo p e below s _ _ _ (T5.setTop (mkF m 33 #[.val (.int x1), .val (.int x2), .val (.int x3), .val (.int x4), .val (.int x5), .val (.int x6), .val (.int r_1), .val (.int r_2), .val (.int r_3), .val (.int r_4), .val (.int r_5), .unset, .unset, .unset, .unset, .unset, .unset, .unset, .unset, .unset, .unset, .unset, .unset, .unset, .unset, .unset, .unset, .unset, .unset, .unset, .unset, .unset, .unset, .unset] [(.int x6)]))
  obtain ⟨_, _, ⟨T6, L6, k6, n6⟩, -, X6, ⟨Lc6, hQ6, l6, y6, z6⟩, st6⟩ := Jvm.LawKit.callS X5 hx (y := (⟨"org/tempochart/observer/PointGridSquaredDistancePinLaw", "coord", "(I)I"⟩ : MethodName)) hown (mvT hZ (w0 hw)) (mvT hZ (w1 hw)) (mvT hZ (w2 hw)) (mvT hZ (w3 hw)) (by decide) (backOf (W := 0) (rm1 l Z a0 hw [] x6 h0 n0 Z0 ) hZ (w3 hw) (w2 hw) (by decide) (by decide)) (g := (mkF m 33 #[.val (.int x1), .val (.int x2), .val (.int x3), .val (.int x4), .val (.int x5), .val (.int x6), .val (.int r_1), .val (.int r_2), .val (.int r_3), .val (.int r_4), .val (.int r_5), .unset, .unset, .unset, .unset, .unset, .unset, .unset, .unset, .unset, .unset, .unset, .unset, .unset, .unset, .unset, .unset, .unset, .unset, .unset, .unset, .unset, .unset, .unset] [(.int x6)])) rfl (by rw [hml]; rfl) (argsL := [(.int x6)]) (rest := []) (lenOf pd_0 rfl) rfl (by show 2 * 0 + _ ≤ _; exact Nat.le_of_eq rfl) (hb hby at_33) (fun _ hWx => ⟨rfl, e5, (by decide : 0 + 0 ≤ _), (by decide : 0 + 0 ≤ _)⟩)
  dsimp only [Pt.U, Pt.locs, Pt.cells, Pt.slots] at X6 l6 y6 z6 st6 hQ6
  replace X6 := own_num (c' := 0) (n' := 0) X6 l6 (y6.trans rfl) (z6.trans rfl)
  obtain ⟨r_6, rfl, N6q, e6, c6_0⟩ := hQ6
  have N6 := Fr.app N5 N6q
  refine own_on st6 ?_
  show OwnGo p e below s _ _ _ (T6.setTop (mkF m 36 #[.val (.int x1), .val (.int x2), .val (.int x3), .val (.int x4), .val (.int x5), .val (.int x6), .val (.int r_1), .val (.int r_2), .val (.int r_3), .val (.int r_4), .val (.int r_5), .unset, .unset, .unset, .unset, .unset, .unset, .unset, .unset, .unset, .unset, .unset, .unset, .unset, .unset, .unset, .unset, .unset, .unset, .unset, .unset, .unset, .unset, .unset] [(.int r_6)]))
  refine own_on (fun t_ k_ => XS.istore X6.here hx rfl (hb hby at_36) rfl (l' := #[.val (.int x1), .val (.int x2), .val (.int x3), .val (.int x4), .val (.int x5), .val (.int x6), .val (.int r_1), .val (.int r_2), .val (.int r_3), .val (.int r_4), .val (.int r_5), .val (.int r_6), .unset, .unset, .unset, .unset, .unset, .unset, .unset, .unset, .unset, .unset, .unset, .unset, .unset, .unset, .unset, .unset, .unset, .unset, .unset, .unset, .unset, .unset]) rfl k_) ?_
  show OwnGo p e below s _ _ _ (T6.setTop (mkF m 38 #[.val (.int x1), .val (.int x2), .val (.int x3), .val (.int x4), .val (.int x5), .val (.int x6), .val (.int r_1), .val (.int r_2), .val (.int r_3), .val (.int r_4), .val (.int r_5), .val (.int r_6), .unset, .unset, .unset, .unset, .unset, .unset, .unset, .unset, .unset, .unset, .unset, .unset, .unset, .unset, .unset, .unset, .unset, .unset, .unset, .unset, .unset, .unset] []))
  refine own_on (fun t_ k_ => XS.iload X6.here hx rfl (hb hby at_38) rfl k_) ?_
  show OwnGo p e below s _ _ _ (T6.setTop (mkF m 40 #[.val (.int x1), .val (.int x2), .val (.int x3), .val (.int x4), .val (.int x5), .val (.int x6), .val (.int r_1), .val (.int r_2), .val (.int r_3), .val (.int r_4), .val (.int r_5), .val (.int r_6), .unset, .unset, .unset, .unset, .unset, .unset, .unset, .unset, .unset, .unset, .unset, .unset, .unset, .unset, .unset, .unset, .unset, .unset, .unset, .unset, .unset, .unset] [(.int r_1)]))
  refine own_on (fun t_ k_ => XS.iload X6.here hx rfl (hb hby at_40) rfl k_) ?_
  show OwnGo p e below s _ _ _ (T6.setTop (mkF m 42 #[.val (.int x1), .val (.int x2), .val (.int x3), .val (.int x4), .val (.int x5), .val (.int x6), .val (.int r_1), .val (.int r_2), .val (.int r_3), .val (.int r_4), .val (.int r_5), .val (.int r_6), .unset, .unset, .unset, .unset, .unset, .unset, .unset, .unset, .unset, .unset, .unset, .unset, .unset, .unset, .unset, .unset, .unset, .unset, .unset, .unset, .unset, .unset] [(.int r_2), (.int r_1)]))
  refine own_on (fun t_ k_ => XS.iload X6.here hx rfl (hb hby at_42) rfl k_) ?_
  show OwnGo p e below s _ _ _ (T6.setTop (mkF m 44 #[.val (.int x1), .val (.int x2), .val (.int x3), .val (.int x4), .val (.int x5), .val (.int x6), .val (.int r_1), .val (.int r_2), .val (.int r_3), .val (.int r_4), .val (.int r_5), .val (.int r_6), .unset, .unset, .unset, .unset, .unset, .unset, .unset, .unset, .unset, .unset, .unset, .unset, .unset, .unset, .unset, .unset, .unset, .unset, .unset, .unset, .unset, .unset] [(.int r_3), (.int r_2), (.int r_1)]))
  refine own_on (fun t_ k_ => XS.iload X6.here hx rfl (hb hby at_44) rfl k_) ?_
  show OwnGo p e below s _ _ _ (T6.setTop (mkF m 46 #[.val (.int x1), .val (.int x2), .val (.int x3), .val (.int x4), .val (.int x5), .val (.int x6), .val (.int r_1), .val (.int r_2), .val (.int r_3), .val (.int r_4), .val (.int r_5), .val (.int r_6), .unset, .unset, .unset, .unset, .unset, .unset, .unset, .unset, .unset, .unset, .unset, .unset, .unset, .unset, .unset, .unset, .unset, .unset, .unset, .unset, .unset, .unset] [(.int r_4), (.int r_3), (.int r_2), (.int r_1)]))
  refine own_on (fun t_ k_ => XS.iload X6.here hx rfl (hb hby at_46) rfl k_) ?_
  show OwnGo p e below s _ _ _ (T6.setTop (mkF m 48 #[.val (.int x1), .val (.int x2), .val (.int x3), .val (.int x4), .val (.int x5), .val (.int x6), .val (.int r_1), .val (.int r_2), .val (.int r_3), .val (.int r_4), .val (.int r_5), .val (.int r_6), .unset, .unset, .unset, .unset, .unset, .unset, .unset, .unset, .unset, .unset, .unset, .unset, .unset, .unset, .unset, .unset, .unset, .unset, .unset, .unset, .unset, .unset] [(.int r_5), (.int r_4), (.int r_3), (.int r_2), (.int r_1)]))
  refine own_on (fun t_ k_ => XS.iload X6.here hx rfl (hb hby at_48) rfl k_) ?_
  show OwnGo p e below s _ _ _ (T6.setTop (mkF m 50 #[.val (.int x1), .val (.int x2), .val (.int x3), .val (.int x4), .val (.int x5), .val (.int x6), .val (.int r_1), .val (.int r_2), .val (.int r_3), .val (.int r_4), .val (.int r_5), .val (.int r_6), .unset, .unset, .unset, .unset, .unset, .unset, .unset, .unset, .unset, .unset, .unset, .unset, .unset, .unset, .unset, .unset, .unset, .unset, .unset, .unset, .unset, .unset] [(.int r_6), (.int r_5), (.int r_4), (.int r_3), (.int r_2), (.int r_1)]))
  obtain ⟨_, _, ⟨T7, L7, k7, n7⟩, -, X7, ⟨Lc7, hQ7, l7, y7, z7⟩, st7⟩ := Jvm.LawKit.callS X6 hx (y := (⟨"org/tempochart/observer/PointGrid", "squaredDistance", "(IIIIII)D"⟩ : MethodName)) hown (mvT hZ (w4 hw)) (mvT hZ (w5 hw)) (mvT hZ (w6 hw)) (mvT hZ (w7 hw)) (by decide) (backOf (W := 0) (rm2 l Z a0 hw [] r_1 r_2 r_3 r_4 r_5 r_6 h0 n0 Z0 c1_0 c2_0 c3_0 c4_0 c5_0 c6_0) hZ (w7 hw) (w6 hw) (by decide) (by decide)) (g := (mkF m 50 #[.val (.int x1), .val (.int x2), .val (.int x3), .val (.int x4), .val (.int x5), .val (.int x6), .val (.int r_1), .val (.int r_2), .val (.int r_3), .val (.int r_4), .val (.int r_5), .val (.int r_6), .unset, .unset, .unset, .unset, .unset, .unset, .unset, .unset, .unset, .unset, .unset, .unset, .unset, .unset, .unset, .unset, .unset, .unset, .unset, .unset, .unset, .unset] [(.int r_6), (.int r_5), (.int r_4), (.int r_3), (.int r_2), (.int r_1)])) rfl (by rw [hml]; rfl) (argsL := [(.int r_1), (.int r_2), (.int r_3), (.int r_4), (.int r_5), (.int r_6)]) (rest := []) (lenOf pd_1 rfl) rfl (by show 2 * 0 + _ ≤ _; exact Nat.le_of_eq rfl) (hb hby at_50) (fun _ hWx => ⟨rfl, e6, (by decide : 0 + 0 ≤ _), (by decide : 0 + 0 ≤ _)⟩)
  dsimp only [Pt.U, Pt.locs, Pt.cells, Pt.slots] at X7 l7 y7 z7 st7 hQ7
  replace X7 := own_num (c' := 0) (n' := 0) X7 l7 (y7.trans rfl) (z7.trans rfl)
  obtain ⟨r_7, rfl, N7q, e7, c7_0⟩ := hQ7
  have N7 := Fr.app N6 N7q
  refine own_on st7 ?_
  show OwnGo p e below s _ _ _ (T7.setTop (mkF m 53 #[.val (.int x1), .val (.int x2), .val (.int x3), .val (.int x4), .val (.int x5), .val (.int x6), .val (.int r_1), .val (.int r_2), .val (.int r_3), .val (.int r_4), .val (.int r_5), .val (.int r_6), .unset, .unset, .unset, .unset, .unset, .unset, .unset, .unset, .unset, .unset, .unset, .unset, .unset, .unset, .unset, .unset, .unset, .unset, .unset, .unset, .unset, .unset] [(.double r_7)]))
  refine own_on (fun t_ k_ => XS.dstore X7.here hx rfl (hb hby at_53) rfl (l' := #[.val (.int x1), .val (.int x2), .val (.int x3), .val (.int x4), .val (.int x5), .val (.int x6), .val (.int r_1), .val (.int r_2), .val (.int r_3), .val (.int r_4), .val (.int r_5), .val (.int r_6), .val (.double r_7), .second, .unset, .unset, .unset, .unset, .unset, .unset, .unset, .unset, .unset, .unset, .unset, .unset, .unset, .unset, .unset, .unset, .unset, .unset, .unset, .unset]) rfl k_) ?_
  show OwnGo p e below s _ _ _ (T7.setTop (mkF m 55 #[.val (.int x1), .val (.int x2), .val (.int x3), .val (.int x4), .val (.int x5), .val (.int x6), .val (.int r_1), .val (.int r_2), .val (.int r_3), .val (.int r_4), .val (.int r_5), .val (.int r_6), .val (.double r_7), .second, .unset, .unset, .unset, .unset, .unset, .unset, .unset, .unset, .unset, .unset, .unset, .unset, .unset, .unset, .unset, .unset, .unset, .unset, .unset, .unset] []))
  refine own_on (fun t_ k_ => XS.iload X7.here hx rfl (hb hby at_55) rfl k_) ?_
  show OwnGo p e below s _ _ _ (T7.setTop (mkF m 57 #[.val (.int x1), .val (.int x2), .val (.int x3), .val (.int x4), .val (.int x5), .val (.int x6), .val (.int r_1), .val (.int r_2), .val (.int r_3), .val (.int r_4), .val (.int r_5), .val (.int r_6), .val (.double r_7), .second, .unset, .unset, .unset, .unset, .unset, .unset, .unset, .unset, .unset, .unset, .unset, .unset, .unset, .unset, .unset, .unset, .unset, .unset, .unset, .unset] [(.int r_1)]))
  refine own_on (fun t_ k_ => XS.i2l X7.here hx rfl (hb hby at_57) rfl k_) ?_
  show OwnGo p e below s _ _ _ (T7.setTop (mkF m 58 #[.val (.int x1), .val (.int x2), .val (.int x3), .val (.int x4), .val (.int x5), .val (.int x6), .val (.int r_1), .val (.int r_2), .val (.int r_3), .val (.int r_4), .val (.int r_5), .val (.int r_6), .val (.double r_7), .second, .unset, .unset, .unset, .unset, .unset, .unset, .unset, .unset, .unset, .unset, .unset, .unset, .unset, .unset, .unset, .unset, .unset, .unset, .unset, .unset] [(.long (r_1.toInt64))]))
  refine own_on (fun t_ k_ => XS.iload X7.here hx rfl (hb hby at_58) rfl k_) ?_
  show OwnGo p e below s _ _ _ (T7.setTop (mkF m 60 #[.val (.int x1), .val (.int x2), .val (.int x3), .val (.int x4), .val (.int x5), .val (.int x6), .val (.int r_1), .val (.int r_2), .val (.int r_3), .val (.int r_4), .val (.int r_5), .val (.int r_6), .val (.double r_7), .second, .unset, .unset, .unset, .unset, .unset, .unset, .unset, .unset, .unset, .unset, .unset, .unset, .unset, .unset, .unset, .unset, .unset, .unset, .unset, .unset] [(.int r_3), (.long (r_1.toInt64))]))
  refine own_on (fun t_ k_ => XS.i2l X7.here hx rfl (hb hby at_60) rfl k_) ?_
  show OwnGo p e below s _ _ _ (T7.setTop (mkF m 61 #[.val (.int x1), .val (.int x2), .val (.int x3), .val (.int x4), .val (.int x5), .val (.int x6), .val (.int r_1), .val (.int r_2), .val (.int r_3), .val (.int r_4), .val (.int r_5), .val (.int r_6), .val (.double r_7), .second, .unset, .unset, .unset, .unset, .unset, .unset, .unset, .unset, .unset, .unset, .unset, .unset, .unset, .unset, .unset, .unset, .unset, .unset, .unset, .unset] [(.long (r_3.toInt64)), (.long (r_1.toInt64))]))
  refine own_on (fun t_ k_ => XS.lsub X7.here hx rfl (hb hby at_61) rfl k_) ?_
  show OwnGo p e below s _ _ _ (T7.setTop (mkF m 62 #[.val (.int x1), .val (.int x2), .val (.int x3), .val (.int x4), .val (.int x5), .val (.int x6), .val (.int r_1), .val (.int r_2), .val (.int r_3), .val (.int r_4), .val (.int r_5), .val (.int r_6), .val (.double r_7), .second, .unset, .unset, .unset, .unset, .unset, .unset, .unset, .unset, .unset, .unset, .unset, .unset, .unset, .unset, .unset, .unset, .unset, .unset, .unset, .unset] [(.long ((r_1.toInt64) - (r_3.toInt64)))]))
  refine own_on (fun t_ k_ => XS.lstore X7.here hx rfl (hb hby at_62) rfl (l' := #[.val (.int x1), .val (.int x2), .val (.int x3), .val (.int x4), .val (.int x5), .val (.int x6), .val (.int r_1), .val (.int r_2), .val (.int r_3), .val (.int r_4), .val (.int r_5), .val (.int r_6), .val (.double r_7), .second, .val (.long ((r_1.toInt64) - (r_3.toInt64))), .second, .unset, .unset, .unset, .unset, .unset, .unset, .unset, .unset, .unset, .unset, .unset, .unset, .unset, .unset, .unset, .unset, .unset, .unset]) rfl k_) ?_
  show OwnGo p e below s _ _ _ (T7.setTop (mkF m 64 #[.val (.int x1), .val (.int x2), .val (.int x3), .val (.int x4), .val (.int x5), .val (.int x6), .val (.int r_1), .val (.int r_2), .val (.int r_3), .val (.int r_4), .val (.int r_5), .val (.int r_6), .val (.double r_7), .second, .val (.long ((r_1.toInt64) - (r_3.toInt64))), .second, .unset, .unset, .unset, .unset, .unset, .unset, .unset, .unset, .unset, .unset, .unset, .unset, .unset, .unset, .unset, .unset, .unset, .unset] []))
  refine own_on (fun t_ k_ => XS.iload X7.here hx rfl (hb hby at_64) rfl k_) ?_
  show OwnGo p e below s _ _ _ (T7.setTop (mkF m 66 #[.val (.int x1), .val (.int x2), .val (.int x3), .val (.int x4), .val (.int x5), .val (.int x6), .val (.int r_1), .val (.int r_2), .val (.int r_3), .val (.int r_4), .val (.int r_5), .val (.int r_6), .val (.double r_7), .second, .val (.long ((r_1.toInt64) - (r_3.toInt64))), .second, .unset, .unset, .unset, .unset, .unset, .unset, .unset, .unset, .unset, .unset, .unset, .unset, .unset, .unset, .unset, .unset, .unset, .unset] [(.int r_2)]))
  refine own_on (fun t_ k_ => XS.i2l X7.here hx rfl (hb hby at_66) rfl k_) ?_
  show OwnGo p e below s _ _ _ (T7.setTop (mkF m 67 #[.val (.int x1), .val (.int x2), .val (.int x3), .val (.int x4), .val (.int x5), .val (.int x6), .val (.int r_1), .val (.int r_2), .val (.int r_3), .val (.int r_4), .val (.int r_5), .val (.int r_6), .val (.double r_7), .second, .val (.long ((r_1.toInt64) - (r_3.toInt64))), .second, .unset, .unset, .unset, .unset, .unset, .unset, .unset, .unset, .unset, .unset, .unset, .unset, .unset, .unset, .unset, .unset, .unset, .unset] [(.long (r_2.toInt64))]))
  refine own_on (fun t_ k_ => XS.iload X7.here hx rfl (hb hby at_67) rfl k_) ?_
  show OwnGo p e below s _ _ _ (T7.setTop (mkF m 69 #[.val (.int x1), .val (.int x2), .val (.int x3), .val (.int x4), .val (.int x5), .val (.int x6), .val (.int r_1), .val (.int r_2), .val (.int r_3), .val (.int r_4), .val (.int r_5), .val (.int r_6), .val (.double r_7), .second, .val (.long ((r_1.toInt64) - (r_3.toInt64))), .second, .unset, .unset, .unset, .unset, .unset, .unset, .unset, .unset, .unset, .unset, .unset, .unset, .unset, .unset, .unset, .unset, .unset, .unset] [(.int r_4), (.long (r_2.toInt64))]))
  refine own_on (fun t_ k_ => XS.i2l X7.here hx rfl (hb hby at_69) rfl k_) ?_
  show OwnGo p e below s _ _ _ (T7.setTop (mkF m 70 #[.val (.int x1), .val (.int x2), .val (.int x3), .val (.int x4), .val (.int x5), .val (.int x6), .val (.int r_1), .val (.int r_2), .val (.int r_3), .val (.int r_4), .val (.int r_5), .val (.int r_6), .val (.double r_7), .second, .val (.long ((r_1.toInt64) - (r_3.toInt64))), .second, .unset, .unset, .unset, .unset, .unset, .unset, .unset, .unset, .unset, .unset, .unset, .unset, .unset, .unset, .unset, .unset, .unset, .unset] [(.long (r_4.toInt64)), (.long (r_2.toInt64))]))
  refine own_on (fun t_ k_ => XS.lsub X7.here hx rfl (hb hby at_70) rfl k_) ?_
  show OwnGo p e below s _ _ _ (T7.setTop (mkF m 71 #[.val (.int x1), .val (.int x2), .val (.int x3), .val (.int x4), .val (.int x5), .val (.int x6), .val (.int r_1), .val (.int r_2), .val (.int r_3), .val (.int r_4), .val (.int r_5), .val (.int r_6), .val (.double r_7), .second, .val (.long ((r_1.toInt64) - (r_3.toInt64))), .second, .unset, .unset, .unset, .unset, .unset, .unset, .unset, .unset, .unset, .unset, .unset, .unset, .unset, .unset, .unset, .unset, .unset, .unset] [(.long ((r_2.toInt64) - (r_4.toInt64)))]))
  refine own_on (fun t_ k_ => XS.lstore X7.here hx rfl (hb hby at_71) rfl (l' := #[.val (.int x1), .val (.int x2), .val (.int x3), .val (.int x4), .val (.int x5), .val (.int x6), .val (.int r_1), .val (.int r_2), .val (.int r_3), .val (.int r_4), .val (.int r_5), .val (.int r_6), .val (.double r_7), .second, .val (.long ((r_1.toInt64) - (r_3.toInt64))), .second, .val (.long ((r_2.toInt64) - (r_4.toInt64))), .second, .unset, .unset, .unset, .unset, .unset, .unset, .unset, .unset, .unset, .unset, .unset, .unset, .unset, .unset, .unset, .unset]) rfl k_) ?_
  show OwnGo p e below s _ _ _ (T7.setTop (mkF m 73 #[.val (.int x1), .val (.int x2), .val (.int x3), .val (.int x4), .val (.int x5), .val (.int x6), .val (.int r_1), .val (.int r_2), .val (.int r_3), .val (.int r_4), .val (.int r_5), .val (.int r_6), .val (.double r_7), .second, .val (.long ((r_1.toInt64) - (r_3.toInt64))), .second, .val (.long ((r_2.toInt64) - (r_4.toInt64))), .second, .unset, .unset, .unset, .unset, .unset, .unset, .unset, .unset, .unset, .unset, .unset, .unset, .unset, .unset, .unset, .unset] []))
  refine own_on (fun t_ k_ => XS.iload X7.here hx rfl (hb hby at_73) rfl k_) ?_
  show OwnGo p e below s _ _ _ (T7.setTop (mkF m 75 #[.val (.int x1), .val (.int x2), .val (.int x3), .val (.int x4), .val (.int x5), .val (.int x6), .val (.int r_1), .val (.int r_2), .val (.int r_3), .val (.int r_4), .val (.int r_5), .val (.int r_6), .val (.double r_7), .second, .val (.long ((r_1.toInt64) - (r_3.toInt64))), .second, .val (.long ((r_2.toInt64) - (r_4.toInt64))), .second, .unset, .unset, .unset, .unset, .unset, .unset, .unset, .unset, .unset, .unset, .unset, .unset, .unset, .unset, .unset, .unset] [(.int r_5)]))
  refine own_on (fun t_ k_ => XS.i2l X7.here hx rfl (hb hby at_75) rfl k_) ?_
  show OwnGo p e below s _ _ _ (T7.setTop (mkF m 76 #[.val (.int x1), .val (.int x2), .val (.int x3), .val (.int x4), .val (.int x5), .val (.int x6), .val (.int r_1), .val (.int r_2), .val (.int r_3), .val (.int r_4), .val (.int r_5), .val (.int r_6), .val (.double r_7), .second, .val (.long ((r_1.toInt64) - (r_3.toInt64))), .second, .val (.long ((r_2.toInt64) - (r_4.toInt64))), .second, .unset, .unset, .unset, .unset, .unset, .unset, .unset, .unset, .unset, .unset, .unset, .unset, .unset, .unset, .unset, .unset] [(.long (r_5.toInt64))]))
  refine own_on (fun t_ k_ => XS.iload X7.here hx rfl (hb hby at_76) rfl k_) ?_
  show OwnGo p e below s _ _ _ (T7.setTop (mkF m 78 #[.val (.int x1), .val (.int x2), .val (.int x3), .val (.int x4), .val (.int x5), .val (.int x6), .val (.int r_1), .val (.int r_2), .val (.int r_3), .val (.int r_4), .val (.int r_5), .val (.int r_6), .val (.double r_7), .second, .val (.long ((r_1.toInt64) - (r_3.toInt64))), .second, .val (.long ((r_2.toInt64) - (r_4.toInt64))), .second, .unset, .unset, .unset, .unset, .unset, .unset, .unset, .unset, .unset, .unset, .unset, .unset, .unset, .unset, .unset, .unset] [(.int r_3), (.long (r_5.toInt64))]))
  refine own_on (fun t_ k_ => XS.i2l X7.here hx rfl (hb hby at_78) rfl k_) ?_
  show OwnGo p e below s _ _ _ (T7.setTop (mkF m 79 #[.val (.int x1), .val (.int x2), .val (.int x3), .val (.int x4), .val (.int x5), .val (.int x6), .val (.int r_1), .val (.int r_2), .val (.int r_3), .val (.int r_4), .val (.int r_5), .val (.int r_6), .val (.double r_7), .second, .val (.long ((r_1.toInt64) - (r_3.toInt64))), .second, .val (.long ((r_2.toInt64) - (r_4.toInt64))), .second, .unset, .unset, .unset, .unset, .unset, .unset, .unset, .unset, .unset, .unset, .unset, .unset, .unset, .unset, .unset, .unset] [(.long (r_3.toInt64)), (.long (r_5.toInt64))]))
  refine own_on (fun t_ k_ => XS.lsub X7.here hx rfl (hb hby at_79) rfl k_) ?_
  show OwnGo p e below s _ _ _ (T7.setTop (mkF m 80 #[.val (.int x1), .val (.int x2), .val (.int x3), .val (.int x4), .val (.int x5), .val (.int x6), .val (.int r_1), .val (.int r_2), .val (.int r_3), .val (.int r_4), .val (.int r_5), .val (.int r_6), .val (.double r_7), .second, .val (.long ((r_1.toInt64) - (r_3.toInt64))), .second, .val (.long ((r_2.toInt64) - (r_4.toInt64))), .second, .unset, .unset, .unset, .unset, .unset, .unset, .unset, .unset, .unset, .unset, .unset, .unset, .unset, .unset, .unset, .unset] [(.long ((r_5.toInt64) - (r_3.toInt64)))]))
  refine own_on (fun t_ k_ => XS.lstore X7.here hx rfl (hb hby at_80) rfl (l' := #[.val (.int x1), .val (.int x2), .val (.int x3), .val (.int x4), .val (.int x5), .val (.int x6), .val (.int r_1), .val (.int r_2), .val (.int r_3), .val (.int r_4), .val (.int r_5), .val (.int r_6), .val (.double r_7), .second, .val (.long ((r_1.toInt64) - (r_3.toInt64))), .second, .val (.long ((r_2.toInt64) - (r_4.toInt64))), .second, .val (.long ((r_5.toInt64) - (r_3.toInt64))), .second, .unset, .unset, .unset, .unset, .unset, .unset, .unset, .unset, .unset, .unset, .unset, .unset, .unset, .unset]) rfl k_) ?_
  show OwnGo p e below s _ _ _ (T7.setTop (mkF m 82 #[.val (.int x1), .val (.int x2), .val (.int x3), .val (.int x4), .val (.int x5), .val (.int x6), .val (.int r_1), .val (.int r_2), .val (.int r_3), .val (.int r_4), .val (.int r_5), .val (.int r_6), .val (.double r_7), .second, .val (.long ((r_1.toInt64) - (r_3.toInt64))), .second, .val (.long ((r_2.toInt64) - (r_4.toInt64))), .second, .val (.long ((r_5.toInt64) - (r_3.toInt64))), .second, .unset, .unset, .unset, .unset, .unset, .unset, .unset, .unset, .unset, .unset, .unset, .unset, .unset, .unset] []))
  refine own_on (fun t_ k_ => XS.iload X7.here hx rfl (hb hby at_82) rfl k_) ?_
  show OwnGo p e below s _ _ _ (T7.setTop (mkF m 84 #[.val (.int x1), .val (.int x2), .val (.int x3), .val (.int x4), .val (.int x5), .val (.int x6), .val (.int r_1), .val (.int r_2), .val (.int r_3), .val (.int r_4), .val (.int r_5), .val (.int r_6), .val (.double r_7), .second, .val (.long ((r_1.toInt64) - (r_3.toInt64))), .second, .val (.long ((r_2.toInt64) - (r_4.toInt64))), .second, .val (.long ((r_5.toInt64) - (r_3.toInt64))), .second, .unset, .unset, .unset, .unset, .unset, .unset, .unset, .unset, .unset, .unset, .unset, .unset, .unset, .unset] [(.int r_6)]))
  refine own_on (fun t_ k_ => XS.i2l X7.here hx rfl (hb hby at_84) rfl k_) ?_
  show OwnGo p e below s _ _ _ (T7.setTop (mkF m 85 #[.val (.int x1), .val (.int x2), .val (.int x3), .val (.int x4), .val (.int x5), .val (.int x6), .val (.int r_1), .val (.int r_2), .val (.int r_3), .val (.int r_4), .val (.int r_5), .val (.int r_6), .val (.double r_7), .second, .val (.long ((r_1.toInt64) - (r_3.toInt64))), .second, .val (.long ((r_2.toInt64) - (r_4.toInt64))), .second, .val (.long ((r_5.toInt64) - (r_3.toInt64))), .second, .unset, .unset, .unset, .unset, .unset, .unset, .unset, .unset, .unset, .unset, .unset, .unset, .unset, .unset] [(.long (r_6.toInt64))]))
  refine own_on (fun t_ k_ => XS.iload X7.here hx rfl (hb hby at_85) rfl k_) ?_
  show OwnGo p e below s _ _ _ (T7.setTop (mkF m 87 #[.val (.int x1), .val (.int x2), .val (.int x3), .val (.int x4), .val (.int x5), .val (.int x6), .val (.int r_1), .val (.int r_2), .val (.int r_3), .val (.int r_4), .val (.int r_5), .val (.int r_6), .val (.double r_7), .second, .val (.long ((r_1.toInt64) - (r_3.toInt64))), .second, .val (.long ((r_2.toInt64) - (r_4.toInt64))), .second, .val (.long ((r_5.toInt64) - (r_3.toInt64))), .second, .unset, .unset, .unset, .unset, .unset, .unset, .unset, .unset, .unset, .unset, .unset, .unset, .unset, .unset] [(.int r_4), (.long (r_6.toInt64))]))
  refine own_on (fun t_ k_ => XS.i2l X7.here hx rfl (hb hby at_87) rfl k_) ?_
  show OwnGo p e below s _ _ _ (T7.setTop (mkF m 88 #[.val (.int x1), .val (.int x2), .val (.int x3), .val (.int x4), .val (.int x5), .val (.int x6), .val (.int r_1), .val (.int r_2), .val (.int r_3), .val (.int r_4), .val (.int r_5), .val (.int r_6), .val (.double r_7), .second, .val (.long ((r_1.toInt64) - (r_3.toInt64))), .second, .val (.long ((r_2.toInt64) - (r_4.toInt64))), .second, .val (.long ((r_5.toInt64) - (r_3.toInt64))), .second, .unset, .unset, .unset, .unset, .unset, .unset, .unset, .unset, .unset, .unset, .unset, .unset, .unset, .unset] [(.long (r_4.toInt64)), (.long (r_6.toInt64))]))
  refine own_on (fun t_ k_ => XS.lsub X7.here hx rfl (hb hby at_88) rfl k_) ?_
  show OwnGo p e below s _ _ _ (T7.setTop (mkF m 89 #[.val (.int x1), .val (.int x2), .val (.int x3), .val (.int x4), .val (.int x5), .val (.int x6), .val (.int r_1), .val (.int r_2), .val (.int r_3), .val (.int r_4), .val (.int r_5), .val (.int r_6), .val (.double r_7), .second, .val (.long ((r_1.toInt64) - (r_3.toInt64))), .second, .val (.long ((r_2.toInt64) - (r_4.toInt64))), .second, .val (.long ((r_5.toInt64) - (r_3.toInt64))), .second, .unset, .unset, .unset, .unset, .unset, .unset, .unset, .unset, .unset, .unset, .unset, .unset, .unset, .unset] [(.long ((r_6.toInt64) - (r_4.toInt64)))]))
  refine own_on (fun t_ k_ => XS.lstore X7.here hx rfl (hb hby at_89) rfl (l' := #[.val (.int x1), .val (.int x2), .val (.int x3), .val (.int x4), .val (.int x5), .val (.int x6), .val (.int r_1), .val (.int r_2), .val (.int r_3), .val (.int r_4), .val (.int r_5), .val (.int r_6), .val (.double r_7), .second, .val (.long ((r_1.toInt64) - (r_3.toInt64))), .second, .val (.long ((r_2.toInt64) - (r_4.toInt64))), .second, .val (.long ((r_5.toInt64) - (r_3.toInt64))), .second, .val (.long ((r_6.toInt64) - (r_4.toInt64))), .second, .unset, .unset, .unset, .unset, .unset, .unset, .unset, .unset, .unset, .unset, .unset, .unset]) rfl k_) ?_
  show OwnGo p e below s _ _ _ (T7.setTop (mkF m 91 #[.val (.int x1), .val (.int x2), .val (.int x3), .val (.int x4), .val (.int x5), .val (.int x6), .val (.int r_1), .val (.int r_2), .val (.int r_3), .val (.int r_4), .val (.int r_5), .val (.int r_6), .val (.double r_7), .second, .val (.long ((r_1.toInt64) - (r_3.toInt64))), .second, .val (.long ((r_2.toInt64) - (r_4.toInt64))), .second, .val (.long ((r_5.toInt64) - (r_3.toInt64))), .second, .val (.long ((r_6.toInt64) - (r_4.toInt64))), .second, .unset, .unset, .unset, .unset, .unset, .unset, .unset, .unset, .unset, .unset, .unset, .unset] []))
  refine own_on (fun t_ k_ => XS.iload X7.here hx rfl (hb hby at_91) rfl k_) ?_
  show OwnGo p e below s _ _ _ (T7.setTop (mkF m 93 #[.val (.int x1), .val (.int x2), .val (.int x3), .val (.int x4), .val (.int x5), .val (.int x6), .val (.int r_1), .val (.int r_2), .val (.int r_3), .val (.int r_4), .val (.int r_5), .val (.int r_6), .val (.double r_7), .second, .val (.long ((r_1.toInt64) - (r_3.toInt64))), .second, .val (.long ((r_2.toInt64) - (r_4.toInt64))), .second, .val (.long ((r_5.toInt64) - (r_3.toInt64))), .second, .val (.long ((r_6.toInt64) - (r_4.toInt64))), .second, .unset, .unset, .unset, .unset, .unset, .unset, .unset, .unset, .unset, .unset, .unset, .unset] [(.int r_1)]))
  refine own_on (fun t_ k_ => XS.i2l X7.here hx rfl (hb hby at_93) rfl k_) ?_
  show OwnGo p e below s _ _ _ (T7.setTop (mkF m 94 #[.val (.int x1), .val (.int x2), .val (.int x3), .val (.int x4), .val (.int x5), .val (.int x6), .val (.int r_1), .val (.int r_2), .val (.int r_3), .val (.int r_4), .val (.int r_5), .val (.int r_6), .val (.double r_7), .second, .val (.long ((r_1.toInt64) - (r_3.toInt64))), .second, .val (.long ((r_2.toInt64) - (r_4.toInt64))), .second, .val (.long ((r_5.toInt64) - (r_3.toInt64))), .second, .val (.long ((r_6.toInt64) - (r_4.toInt64))), .second, .unset, .unset, .unset, .unset, .unset, .unset, .unset, .unset, .unset, .unset, .unset, .unset] [(.long (r_1.toInt64))]))
  refine own_on (fun t_ k_ => XS.iload X7.here hx rfl (hb hby at_94) rfl k_) ?_
  show OwnGo p e below s _ _ _ (T7.setTop (mkF m 96 #[.val (.int x1), .val (.int x2), .val (.int x3), .val (.int x4), .val (.int x5), .val (.int x6), .val (.int r_1), .val (.int r_2), .val (.int r_3), .val (.int r_4), .val (.int r_5), .val (.int r_6), .val (.double r_7), .second, .val (.long ((r_1.toInt64) - (r_3.toInt64))), .second, .val (.long ((r_2.toInt64) - (r_4.toInt64))), .second, .val (.long ((r_5.toInt64) - (r_3.toInt64))), .second, .val (.long ((r_6.toInt64) - (r_4.toInt64))), .second, .unset, .unset, .unset, .unset, .unset, .unset, .unset, .unset, .unset, .unset, .unset, .unset] [(.int r_5), (.long (r_1.toInt64))]))
  refine own_on (fun t_ k_ => XS.i2l X7.here hx rfl (hb hby at_96) rfl k_) ?_
  show OwnGo p e below s _ _ _ (T7.setTop (mkF m 97 #[.val (.int x1), .val (.int x2), .val (.int x3), .val (.int x4), .val (.int x5), .val (.int x6), .val (.int r_1), .val (.int r_2), .val (.int r_3), .val (.int r_4), .val (.int r_5), .val (.int r_6), .val (.double r_7), .second, .val (.long ((r_1.toInt64) - (r_3.toInt64))), .second, .val (.long ((r_2.toInt64) - (r_4.toInt64))), .second, .val (.long ((r_5.toInt64) - (r_3.toInt64))), .second, .val (.long ((r_6.toInt64) - (r_4.toInt64))), .second, .unset, .unset, .unset, .unset, .unset, .unset, .unset, .unset, .unset, .unset, .unset, .unset] [(.long (r_5.toInt64)), (.long (r_1.toInt64))]))
  refine own_on (fun t_ k_ => XS.lsub X7.here hx rfl (hb hby at_97) rfl k_) ?_
  show OwnGo p e below s _ _ _ (T7.setTop (mkF m 98 #[.val (.int x1), .val (.int x2), .val (.int x3), .val (.int x4), .val (.int x5), .val (.int x6), .val (.int r_1), .val (.int r_2), .val (.int r_3), .val (.int r_4), .val (.int r_5), .val (.int r_6), .val (.double r_7), .second, .val (.long ((r_1.toInt64) - (r_3.toInt64))), .second, .val (.long ((r_2.toInt64) - (r_4.toInt64))), .second, .val (.long ((r_5.toInt64) - (r_3.toInt64))), .second, .val (.long ((r_6.toInt64) - (r_4.toInt64))), .second, .unset, .unset, .unset, .unset, .unset, .unset, .unset, .unset, .unset, .unset, .unset, .unset] [(.long ((r_1.toInt64) - (r_5.toInt64)))]))
  refine own_on (fun t_ k_ => XS.lstore X7.here hx rfl (hb hby at_98) rfl (l' := #[.val (.int x1), .val (.int x2), .val (.int x3), .val (.int x4), .val (.int x5), .val (.int x6), .val (.int r_1), .val (.int r_2), .val (.int r_3), .val (.int r_4), .val (.int r_5), .val (.int r_6), .val (.double r_7), .second, .val (.long ((r_1.toInt64) - (r_3.toInt64))), .second, .val (.long ((r_2.toInt64) - (r_4.toInt64))), .second, .val (.long ((r_5.toInt64) - (r_3.toInt64))), .second, .val (.long ((r_6.toInt64) - (r_4.toInt64))), .second, .val (.long ((r_1.toInt64) - (r_5.toInt64))), .second, .unset, .unset, .unset, .unset, .unset, .unset, .unset, .unset, .unset, .unset]) rfl k_) ?_
  show OwnGo p e below s _ _ _ (T7.setTop (mkF m 100 #[.val (.int x1), .val (.int x2), .val (.int x3), .val (.int x4), .val (.int x5), .val (.int x6), .val (.int r_1), .val (.int r_2), .val (.int r_3), .val (.int r_4), .val (.int r_5), .val (.int r_6), .val (.double r_7), .second, .val (.long ((r_1.toInt64) - (r_3.toInt64))), .second, .val (.long ((r_2.toInt64) - (r_4.toInt64))), .second, .val (.long ((r_5.toInt64) - (r_3.toInt64))), .second, .val (.long ((r_6.toInt64) - (r_4.toInt64))), .second, .val (.long ((r_1.toInt64) - (r_5.toInt64))), .second, .unset, .unset, .unset, .unset, .unset, .unset, .unset, .unset, .unset, .unset] []))
  refine own_on (fun t_ k_ => XS.iload X7.here hx rfl (hb hby at_100) rfl k_) ?_
  show OwnGo p e below s _ _ _ (T7.setTop (mkF m 102 #[.val (.int x1), .val (.int x2), .val (.int x3), .val (.int x4), .val (.int x5), .val (.int x6), .val (.int r_1), .val (.int r_2), .val (.int r_3), .val (.int r_4), .val (.int r_5), .val (.int r_6), .val (.double r_7), .second, .val (.long ((r_1.toInt64) - (r_3.toInt64))), .second, .val (.long ((r_2.toInt64) - (r_4.toInt64))), .second, .val (.long ((r_5.toInt64) - (r_3.toInt64))), .second, .val (.long ((r_6.toInt64) - (r_4.toInt64))), .second, .val (.long ((r_1.toInt64) - (r_5.toInt64))), .second, .unset, .unset, .unset, .unset, .unset, .unset, .unset, .unset, .unset, .unset] [(.int r_2)]))
  refine own_on (fun t_ k_ => XS.i2l X7.here hx rfl (hb hby at_102) rfl k_) ?_
  show OwnGo p e below s _ _ _ (T7.setTop (mkF m 103 #[.val (.int x1), .val (.int x2), .val (.int x3), .val (.int x4), .val (.int x5), .val (.int x6), .val (.int r_1), .val (.int r_2), .val (.int r_3), .val (.int r_4), .val (.int r_5), .val (.int r_6), .val (.double r_7), .second, .val (.long ((r_1.toInt64) - (r_3.toInt64))), .second, .val (.long ((r_2.toInt64) - (r_4.toInt64))), .second, .val (.long ((r_5.toInt64) - (r_3.toInt64))), .second, .val (.long ((r_6.toInt64) - (r_4.toInt64))), .second, .val (.long ((r_1.toInt64) - (r_5.toInt64))), .second, .unset, .unset, .unset, .unset, .unset, .unset, .unset, .unset, .unset, .unset] [(.long (r_2.toInt64))]))
  refine own_on (fun t_ k_ => XS.iload X7.here hx rfl (hb hby at_103) rfl k_) ?_
  show OwnGo p e below s _ _ _ (T7.setTop (mkF m 105 #[.val (.int x1), .val (.int x2), .val (.int x3), .val (.int x4), .val (.int x5), .val (.int x6), .val (.int r_1), .val (.int r_2), .val (.int r_3), .val (.int r_4), .val (.int r_5), .val (.int r_6), .val (.double r_7), .second, .val (.long ((r_1.toInt64) - (r_3.toInt64))), .second, .val (.long ((r_2.toInt64) - (r_4.toInt64))), .second, .val (.long ((r_5.toInt64) - (r_3.toInt64))), .second, .val (.long ((r_6.toInt64) - (r_4.toInt64))), .second, .val (.long ((r_1.toInt64) - (r_5.toInt64))), .second, .unset, .unset, .unset, .unset, .unset, .unset, .unset, .unset, .unset, .unset] [(.int r_6), (.long (r_2.toInt64))]))
  refine own_on (fun t_ k_ => XS.i2l X7.here hx rfl (hb hby at_105) rfl k_) ?_
  show OwnGo p e below s _ _ _ (T7.setTop (mkF m 106 #[.val (.int x1), .val (.int x2), .val (.int x3), .val (.int x4), .val (.int x5), .val (.int x6), .val (.int r_1), .val (.int r_2), .val (.int r_3), .val (.int r_4), .val (.int r_5), .val (.int r_6), .val (.double r_7), .second, .val (.long ((r_1.toInt64) - (r_3.toInt64))), .second, .val (.long ((r_2.toInt64) - (r_4.toInt64))), .second, .val (.long ((r_5.toInt64) - (r_3.toInt64))), .second, .val (.long ((r_6.toInt64) - (r_4.toInt64))), .second, .val (.long ((r_1.toInt64) - (r_5.toInt64))), .second, .unset, .unset, .unset, .unset, .unset, .unset, .unset, .unset, .unset, .unset] [(.long (r_6.toInt64)), (.long (r_2.toInt64))]))
  refine own_on (fun t_ k_ => XS.lsub X7.here hx rfl (hb hby at_106) rfl k_) ?_
  show OwnGo p e below s _ _ _ (T7.setTop (mkF m 107 #[.val (.int x1), .val (.int x2), .val (.int x3), .val (.int x4), .val (.int x5), .val (.int x6), .val (.int r_1), .val (.int r_2), .val (.int r_3), .val (.int r_4), .val (.int r_5), .val (.int r_6), .val (.double r_7), .second, .val (.long ((r_1.toInt64) - (r_3.toInt64))), .second, .val (.long ((r_2.toInt64) - (r_4.toInt64))), .second, .val (.long ((r_5.toInt64) - (r_3.toInt64))), .second, .val (.long ((r_6.toInt64) - (r_4.toInt64))), .second, .val (.long ((r_1.toInt64) - (r_5.toInt64))), .second, .unset, .unset, .unset, .unset, .unset, .unset, .unset, .unset, .unset, .unset] [(.long ((r_2.toInt64) - (r_6.toInt64)))]))
  refine own_on (fun t_ k_ => XS.lstore X7.here hx rfl (hb hby at_107) rfl (l' := #[.val (.int x1), .val (.int x2), .val (.int x3), .val (.int x4), .val (.int x5), .val (.int x6), .val (.int r_1), .val (.int r_2), .val (.int r_3), .val (.int r_4), .val (.int r_5), .val (.int r_6), .val (.double r_7), .second, .val (.long ((r_1.toInt64) - (r_3.toInt64))), .second, .val (.long ((r_2.toInt64) - (r_4.toInt64))), .second, .val (.long ((r_5.toInt64) - (r_3.toInt64))), .second, .val (.long ((r_6.toInt64) - (r_4.toInt64))), .second, .val (.long ((r_1.toInt64) - (r_5.toInt64))), .second, .val (.long ((r_2.toInt64) - (r_6.toInt64))), .second, .unset, .unset, .unset, .unset, .unset, .unset, .unset, .unset]) rfl k_) ?_
  show OwnGo p e below s _ _ _ (T7.setTop (mkF m 109 #[.val (.int x1), .val (.int x2), .val (.int x3), .val (.int x4), .val (.int x5), .val (.int x6), .val (.int r_1), .val (.int r_2), .val (.int r_3), .val (.int r_4), .val (.int r_5), .val (.int r_6), .val (.double r_7), .second, .val (.long ((r_1.toInt64) - (r_3.toInt64))), .second, .val (.long ((r_2.toInt64) - (r_4.toInt64))), .second, .val (.long ((r_5.toInt64) - (r_3.toInt64))), .second, .val (.long ((r_6.toInt64) - (r_4.toInt64))), .second, .val (.long ((r_1.toInt64) - (r_5.toInt64))), .second, .val (.long ((r_2.toInt64) - (r_6.toInt64))), .second, .unset, .unset, .unset, .unset, .unset, .unset, .unset, .unset] []))
  obtain ⟨px, epx⟩ : ∃ z : Int64, ((r_1.toInt64) - (r_3.toInt64)) = z := ⟨_, rfl⟩
  have ipx := own_l2 c1_0 c3_0 epx
  have bpx : own_b px.toInt := ipx ▸ own_bb c1_0 c3_0
  rw [show ((r_1.toInt64) - (r_3.toInt64)) = px from epx]
  show OwnGo p e below s _ _ _ (T7.setTop (mkF m 109 #[.val (.int x1), .val (.int x2), .val (.int x3), .val (.int x4), .val (.int x5), .val (.int x6), .val (.int r_1), .val (.int r_2), .val (.int r_3), .val (.int r_4), .val (.int r_5), .val (.int r_6), .val (.double r_7), .second, .val (.long px), .second, .val (.long ((r_2.toInt64) - (r_4.toInt64))), .second, .val (.long ((r_5.toInt64) - (r_3.toInt64))), .second, .val (.long ((r_6.toInt64) - (r_4.toInt64))), .second, .val (.long ((r_1.toInt64) - (r_5.toInt64))), .second, .val (.long ((r_2.toInt64) - (r_6.toInt64))), .second, .unset, .unset, .unset, .unset, .unset, .unset, .unset, .unset] []))
  obtain ⟨py, epy⟩ : ∃ z : Int64, ((r_2.toInt64) - (r_4.toInt64)) = z := ⟨_, rfl⟩
  have ipy := own_l2 c2_0 c4_0 epy
  have bpy : own_b py.toInt := ipy ▸ own_bb c2_0 c4_0
  rw [show ((r_2.toInt64) - (r_4.toInt64)) = py from epy]
  show OwnGo p e below s _ _ _ (T7.setTop (mkF m 109 #[.val (.int x1), .val (.int x2), .val (.int x3), .val (.int x4), .val (.int x5), .val (.int x6), .val (.int r_1), .val (.int r_2), .val (.int r_3), .val (.int r_4), .val (.int r_5), .val (.int r_6), .val (.double r_7), .second, .val (.long px), .second, .val (.long py), .second, .val (.long ((r_5.toInt64) - (r_3.toInt64))), .second, .val (.long ((r_6.toInt64) - (r_4.toInt64))), .second, .val (.long ((r_1.toInt64) - (r_5.toInt64))), .second, .val (.long ((r_2.toInt64) - (r_6.toInt64))), .second, .unset, .unset, .unset, .unset, .unset, .unset, .unset, .unset] []))
  obtain ⟨dx, edx⟩ : ∃ z : Int64, ((r_5.toInt64) - (r_3.toInt64)) = z := ⟨_, rfl⟩
  have idx := own_l2 c5_0 c3_0 edx
  have bdx : own_b dx.toInt := idx ▸ own_bb c5_0 c3_0
  rw [show ((r_5.toInt64) - (r_3.toInt64)) = dx from edx]
  show OwnGo p e below s _ _ _ (T7.setTop (mkF m 109 #[.val (.int x1), .val (.int x2), .val (.int x3), .val (.int x4), .val (.int x5), .val (.int x6), .val (.int r_1), .val (.int r_2), .val (.int r_3), .val (.int r_4), .val (.int r_5), .val (.int r_6), .val (.double r_7), .second, .val (.long px), .second, .val (.long py), .second, .val (.long dx), .second, .val (.long ((r_6.toInt64) - (r_4.toInt64))), .second, .val (.long ((r_1.toInt64) - (r_5.toInt64))), .second, .val (.long ((r_2.toInt64) - (r_6.toInt64))), .second, .unset, .unset, .unset, .unset, .unset, .unset, .unset, .unset] []))
  obtain ⟨dy, edy⟩ : ∃ z : Int64, ((r_6.toInt64) - (r_4.toInt64)) = z := ⟨_, rfl⟩
  have idy := own_l2 c6_0 c4_0 edy
  have bdy : own_b dy.toInt := idy ▸ own_bb c6_0 c4_0
  rw [show ((r_6.toInt64) - (r_4.toInt64)) = dy from edy]
  show OwnGo p e below s _ _ _ (T7.setTop (mkF m 109 #[.val (.int x1), .val (.int x2), .val (.int x3), .val (.int x4), .val (.int x5), .val (.int x6), .val (.int r_1), .val (.int r_2), .val (.int r_3), .val (.int r_4), .val (.int r_5), .val (.int r_6), .val (.double r_7), .second, .val (.long px), .second, .val (.long py), .second, .val (.long dx), .second, .val (.long dy), .second, .val (.long ((r_1.toInt64) - (r_5.toInt64))), .second, .val (.long ((r_2.toInt64) - (r_6.toInt64))), .second, .unset, .unset, .unset, .unset, .unset, .unset, .unset, .unset] []))
  obtain ⟨qx, eqx⟩ : ∃ z : Int64, ((r_1.toInt64) - (r_5.toInt64)) = z := ⟨_, rfl⟩
  have iqx := own_l2 c1_0 c5_0 eqx
  have bqx : own_b qx.toInt := iqx ▸ own_bb c1_0 c5_0
  rw [show ((r_1.toInt64) - (r_5.toInt64)) = qx from eqx]
  show OwnGo p e below s _ _ _ (T7.setTop (mkF m 109 #[.val (.int x1), .val (.int x2), .val (.int x3), .val (.int x4), .val (.int x5), .val (.int x6), .val (.int r_1), .val (.int r_2), .val (.int r_3), .val (.int r_4), .val (.int r_5), .val (.int r_6), .val (.double r_7), .second, .val (.long px), .second, .val (.long py), .second, .val (.long dx), .second, .val (.long dy), .second, .val (.long qx), .second, .val (.long ((r_2.toInt64) - (r_6.toInt64))), .second, .unset, .unset, .unset, .unset, .unset, .unset, .unset, .unset] []))
  obtain ⟨qy, eqy⟩ : ∃ z : Int64, ((r_2.toInt64) - (r_6.toInt64)) = z := ⟨_, rfl⟩
  have iqy := own_l2 c2_0 c6_0 eqy
  have bqy : own_b qy.toInt := iqy ▸ own_bb c2_0 c6_0
  rw [show ((r_2.toInt64) - (r_6.toInt64)) = qy from eqy]
  show OwnGo p e below s _ _ _ (T7.setTop (mkF m 109 #[.val (.int x1), .val (.int x2), .val (.int x3), .val (.int x4), .val (.int x5), .val (.int x6), .val (.int r_1), .val (.int r_2), .val (.int r_3), .val (.int r_4), .val (.int r_5), .val (.int r_6), .val (.double r_7), .second, .val (.long px), .second, .val (.long py), .second, .val (.long dx), .second, .val (.long dy), .second, .val (.long qx), .second, .val (.long qy), .second, .unset, .unset, .unset, .unset, .unset, .unset, .unset, .unset] []))
  have hsd := c7_0
  unfold own_sd at hsd
  rw [← ipx, ← ipy, ← idx, ← idy] at hsd
  obtain ⟨k1, k2, k3⟩ := hsd
  refine own_on (fun t_ k_ => XS.lload X7.here hx rfl (hb hby at_109) rfl k_) ?_
  show OwnGo p e below s _ _ _ (T7.setTop (mkF m 111 #[.val (.int x1), .val (.int x2), .val (.int x3), .val (.int x4), .val (.int x5), .val (.int x6), .val (.int r_1), .val (.int r_2), .val (.int r_3), .val (.int r_4), .val (.int r_5), .val (.int r_6), .val (.double r_7), .second, .val (.long px), .second, .val (.long py), .second, .val (.long dx), .second, .val (.long dy), .second, .val (.long qx), .second, .val (.long qy), .second, .unset, .unset, .unset, .unset, .unset, .unset, .unset, .unset] [(.long dx)]))
  refine own_on (fun t_ k_ => XS.lload X7.here hx rfl (hb hby at_111) rfl k_) ?_
  show OwnGo p e below s _ _ _ (T7.setTop (mkF m 113 #[.val (.int x1), .val (.int x2), .val (.int x3), .val (.int x4), .val (.int x5), .val (.int x6), .val (.int r_1), .val (.int r_2), .val (.int r_3), .val (.int r_4), .val (.int r_5), .val (.int r_6), .val (.double r_7), .second, .val (.long px), .second, .val (.long py), .second, .val (.long dx), .second, .val (.long dy), .second, .val (.long qx), .second, .val (.long qy), .second, .unset, .unset, .unset, .unset, .unset, .unset, .unset, .unset] [(.long dx), (.long dx)]))
  refine own_on (fun t_ k_ => XS.lmul X7.here hx rfl (hb hby at_113) rfl k_) ?_
  show OwnGo p e below s _ _ _ (T7.setTop (mkF m 114 #[.val (.int x1), .val (.int x2), .val (.int x3), .val (.int x4), .val (.int x5), .val (.int x6), .val (.int r_1), .val (.int r_2), .val (.int r_3), .val (.int r_4), .val (.int r_5), .val (.int r_6), .val (.double r_7), .second, .val (.long px), .second, .val (.long py), .second, .val (.long dx), .second, .val (.long dy), .second, .val (.long qx), .second, .val (.long qy), .second, .unset, .unset, .unset, .unset, .unset, .unset, .unset, .unset] [(.long (dx * dx))]))
  refine own_on (fun t_ k_ => XS.lload X7.here hx rfl (hb hby at_114) rfl k_) ?_
  show OwnGo p e below s _ _ _ (T7.setTop (mkF m 116 #[.val (.int x1), .val (.int x2), .val (.int x3), .val (.int x4), .val (.int x5), .val (.int x6), .val (.int r_1), .val (.int r_2), .val (.int r_3), .val (.int r_4), .val (.int r_5), .val (.int r_6), .val (.double r_7), .second, .val (.long px), .second, .val (.long py), .second, .val (.long dx), .second, .val (.long dy), .second, .val (.long qx), .second, .val (.long qy), .second, .unset, .unset, .unset, .unset, .unset, .unset, .unset, .unset] [(.long dy), (.long (dx * dx))]))
  refine own_on (fun t_ k_ => XS.lload X7.here hx rfl (hb hby at_116) rfl k_) ?_
  show OwnGo p e below s _ _ _ (T7.setTop (mkF m 118 #[.val (.int x1), .val (.int x2), .val (.int x3), .val (.int x4), .val (.int x5), .val (.int x6), .val (.int r_1), .val (.int r_2), .val (.int r_3), .val (.int r_4), .val (.int r_5), .val (.int r_6), .val (.double r_7), .second, .val (.long px), .second, .val (.long py), .second, .val (.long dx), .second, .val (.long dy), .second, .val (.long qx), .second, .val (.long qy), .second, .unset, .unset, .unset, .unset, .unset, .unset, .unset, .unset] [(.long dy), (.long dy), (.long (dx * dx))]))
  refine own_on (fun t_ k_ => XS.lmul X7.here hx rfl (hb hby at_118) rfl k_) ?_
  show OwnGo p e below s _ _ _ (T7.setTop (mkF m 119 #[.val (.int x1), .val (.int x2), .val (.int x3), .val (.int x4), .val (.int x5), .val (.int x6), .val (.int r_1), .val (.int r_2), .val (.int r_3), .val (.int r_4), .val (.int r_5), .val (.int r_6), .val (.double r_7), .second, .val (.long px), .second, .val (.long py), .second, .val (.long dx), .second, .val (.long dy), .second, .val (.long qx), .second, .val (.long qy), .second, .unset, .unset, .unset, .unset, .unset, .unset, .unset, .unset] [(.long (dy * dy)), (.long (dx * dx))]))
  refine own_on (fun t_ k_ => XS.ladd X7.here hx rfl (hb hby at_119) rfl k_) ?_
  show OwnGo p e below s _ _ _ (T7.setTop (mkF m 120 #[.val (.int x1), .val (.int x2), .val (.int x3), .val (.int x4), .val (.int x5), .val (.int x6), .val (.int r_1), .val (.int r_2), .val (.int r_3), .val (.int r_4), .val (.int r_5), .val (.int r_6), .val (.double r_7), .second, .val (.long px), .second, .val (.long py), .second, .val (.long dx), .second, .val (.long dy), .second, .val (.long qx), .second, .val (.long qy), .second, .unset, .unset, .unset, .unset, .unset, .unset, .unset, .unset] [(.long ((dx * dx) + (dy * dy)))]))
  refine own_on (fun t_ k_ => XS.lstore X7.here hx rfl (hb hby at_120) rfl (l' := #[.val (.int x1), .val (.int x2), .val (.int x3), .val (.int x4), .val (.int x5), .val (.int x6), .val (.int r_1), .val (.int r_2), .val (.int r_3), .val (.int r_4), .val (.int r_5), .val (.int r_6), .val (.double r_7), .second, .val (.long px), .second, .val (.long py), .second, .val (.long dx), .second, .val (.long dy), .second, .val (.long qx), .second, .val (.long qy), .second, .val (.long ((dx * dx) + (dy * dy))), .second, .unset, .unset, .unset, .unset, .unset, .unset]) rfl k_) ?_
  show OwnGo p e below s _ _ _ (T7.setTop (mkF m 122 #[.val (.int x1), .val (.int x2), .val (.int x3), .val (.int x4), .val (.int x5), .val (.int x6), .val (.int r_1), .val (.int r_2), .val (.int r_3), .val (.int r_4), .val (.int r_5), .val (.int r_6), .val (.double r_7), .second, .val (.long px), .second, .val (.long py), .second, .val (.long dx), .second, .val (.long dy), .second, .val (.long qx), .second, .val (.long qy), .second, .val (.long ((dx * dx) + (dy * dy))), .second, .unset, .unset, .unset, .unset, .unset, .unset] []))
  refine own_on (fun t_ k_ => XS.lload X7.here hx rfl (hb hby at_122) rfl k_) ?_
  show OwnGo p e below s _ _ _ (T7.setTop (mkF m 124 #[.val (.int x1), .val (.int x2), .val (.int x3), .val (.int x4), .val (.int x5), .val (.int x6), .val (.int r_1), .val (.int r_2), .val (.int r_3), .val (.int r_4), .val (.int r_5), .val (.int r_6), .val (.double r_7), .second, .val (.long px), .second, .val (.long py), .second, .val (.long dx), .second, .val (.long dy), .second, .val (.long qx), .second, .val (.long qy), .second, .val (.long ((dx * dx) + (dy * dy))), .second, .unset, .unset, .unset, .unset, .unset, .unset] [(.long px)]))
  refine own_on (fun t_ k_ => XS.lload X7.here hx rfl (hb hby at_124) rfl k_) ?_
  show OwnGo p e below s _ _ _ (T7.setTop (mkF m 126 #[.val (.int x1), .val (.int x2), .val (.int x3), .val (.int x4), .val (.int x5), .val (.int x6), .val (.int r_1), .val (.int r_2), .val (.int r_3), .val (.int r_4), .val (.int r_5), .val (.int r_6), .val (.double r_7), .second, .val (.long px), .second, .val (.long py), .second, .val (.long dx), .second, .val (.long dy), .second, .val (.long qx), .second, .val (.long qy), .second, .val (.long ((dx * dx) + (dy * dy))), .second, .unset, .unset, .unset, .unset, .unset, .unset] [(.long dx), (.long px)]))
  refine own_on (fun t_ k_ => XS.lmul X7.here hx rfl (hb hby at_126) rfl k_) ?_
  show OwnGo p e below s _ _ _ (T7.setTop (mkF m 127 #[.val (.int x1), .val (.int x2), .val (.int x3), .val (.int x4), .val (.int x5), .val (.int x6), .val (.int r_1), .val (.int r_2), .val (.int r_3), .val (.int r_4), .val (.int r_5), .val (.int r_6), .val (.double r_7), .second, .val (.long px), .second, .val (.long py), .second, .val (.long dx), .second, .val (.long dy), .second, .val (.long qx), .second, .val (.long qy), .second, .val (.long ((dx * dx) + (dy * dy))), .second, .unset, .unset, .unset, .unset, .unset, .unset] [(.long (px * dx))]))
  refine own_on (fun t_ k_ => XS.lload X7.here hx rfl (hb hby at_127) rfl k_) ?_
  show OwnGo p e below s _ _ _ (T7.setTop (mkF m 129 #[.val (.int x1), .val (.int x2), .val (.int x3), .val (.int x4), .val (.int x5), .val (.int x6), .val (.int r_1), .val (.int r_2), .val (.int r_3), .val (.int r_4), .val (.int r_5), .val (.int r_6), .val (.double r_7), .second, .val (.long px), .second, .val (.long py), .second, .val (.long dx), .second, .val (.long dy), .second, .val (.long qx), .second, .val (.long qy), .second, .val (.long ((dx * dx) + (dy * dy))), .second, .unset, .unset, .unset, .unset, .unset, .unset] [(.long py), (.long (px * dx))]))
  refine own_on (fun t_ k_ => XS.lload X7.here hx rfl (hb hby at_129) rfl k_) ?_
  show OwnGo p e below s _ _ _ (T7.setTop (mkF m 131 #[.val (.int x1), .val (.int x2), .val (.int x3), .val (.int x4), .val (.int x5), .val (.int x6), .val (.int r_1), .val (.int r_2), .val (.int r_3), .val (.int r_4), .val (.int r_5), .val (.int r_6), .val (.double r_7), .second, .val (.long px), .second, .val (.long py), .second, .val (.long dx), .second, .val (.long dy), .second, .val (.long qx), .second, .val (.long qy), .second, .val (.long ((dx * dx) + (dy * dy))), .second, .unset, .unset, .unset, .unset, .unset, .unset] [(.long dy), (.long py), (.long (px * dx))]))
  refine own_on (fun t_ k_ => XS.lmul X7.here hx rfl (hb hby at_131) rfl k_) ?_
  show OwnGo p e below s _ _ _ (T7.setTop (mkF m 132 #[.val (.int x1), .val (.int x2), .val (.int x3), .val (.int x4), .val (.int x5), .val (.int x6), .val (.int r_1), .val (.int r_2), .val (.int r_3), .val (.int r_4), .val (.int r_5), .val (.int r_6), .val (.double r_7), .second, .val (.long px), .second, .val (.long py), .second, .val (.long dx), .second, .val (.long dy), .second, .val (.long qx), .second, .val (.long qy), .second, .val (.long ((dx * dx) + (dy * dy))), .second, .unset, .unset, .unset, .unset, .unset, .unset] [(.long (py * dy)), (.long (px * dx))]))
  refine own_on (fun t_ k_ => XS.ladd X7.here hx rfl (hb hby at_132) rfl k_) ?_
  show OwnGo p e below s _ _ _ (T7.setTop (mkF m 133 #[.val (.int x1), .val (.int x2), .val (.int x3), .val (.int x4), .val (.int x5), .val (.int x6), .val (.int r_1), .val (.int r_2), .val (.int r_3), .val (.int r_4), .val (.int r_5), .val (.int r_6), .val (.double r_7), .second, .val (.long px), .second, .val (.long py), .second, .val (.long dx), .second, .val (.long dy), .second, .val (.long qx), .second, .val (.long qy), .second, .val (.long ((dx * dx) + (dy * dy))), .second, .unset, .unset, .unset, .unset, .unset, .unset] [(.long ((px * dx) + (py * dy)))]))
  refine own_on (fun t_ k_ => XS.lstore X7.here hx rfl (hb hby at_133) rfl (l' := #[.val (.int x1), .val (.int x2), .val (.int x3), .val (.int x4), .val (.int x5), .val (.int x6), .val (.int r_1), .val (.int r_2), .val (.int r_3), .val (.int r_4), .val (.int r_5), .val (.int r_6), .val (.double r_7), .second, .val (.long px), .second, .val (.long py), .second, .val (.long dx), .second, .val (.long dy), .second, .val (.long qx), .second, .val (.long qy), .second, .val (.long ((dx * dx) + (dy * dy))), .second, .val (.long ((px * dx) + (py * dy))), .second, .unset, .unset, .unset, .unset]) rfl k_) ?_
  show OwnGo p e below s _ _ _ (T7.setTop (mkF m 135 #[.val (.int x1), .val (.int x2), .val (.int x3), .val (.int x4), .val (.int x5), .val (.int x6), .val (.int r_1), .val (.int r_2), .val (.int r_3), .val (.int r_4), .val (.int r_5), .val (.int r_6), .val (.double r_7), .second, .val (.long px), .second, .val (.long py), .second, .val (.long dx), .second, .val (.long dy), .second, .val (.long qx), .second, .val (.long qy), .second, .val (.long ((dx * dx) + (dy * dy))), .second, .val (.long ((px * dx) + (py * dy))), .second, .unset, .unset, .unset, .unset] []))
  obtain ⟨ss, ess⟩ : ∃ z : Int64, ((dx * dx) + (dy * dy)) = z := ⟨_, rfl⟩
  have iss := (congrArg Int64.toInt ess).symm.trans (own_m2 bdx bdx bdy bdy)
  rw [show ((dx * dx) + (dy * dy)) = ss from ess]
  show OwnGo p e below s _ _ _ (T7.setTop (mkF m 135 #[.val (.int x1), .val (.int x2), .val (.int x3), .val (.int x4), .val (.int x5), .val (.int x6), .val (.int r_1), .val (.int r_2), .val (.int r_3), .val (.int r_4), .val (.int r_5), .val (.int r_6), .val (.double r_7), .second, .val (.long px), .second, .val (.long py), .second, .val (.long dx), .second, .val (.long dy), .second, .val (.long qx), .second, .val (.long qy), .second, .val (.long ss), .second, .val (.long ((px * dx) + (py * dy))), .second, .unset, .unset, .unset, .unset] []))
  obtain ⟨dt, edt⟩ : ∃ z : Int64, ((px * dx) + (py * dy)) = z := ⟨_, rfl⟩
  have idt := (congrArg Int64.toInt edt).symm.trans (own_m2 bpx bdx bpy bdy)
  rw [show ((px * dx) + (py * dy)) = dt from edt]
  show OwnGo p e below s _ _ _ (T7.setTop (mkF m 135 #[.val (.int x1), .val (.int x2), .val (.int x3), .val (.int x4), .val (.int x5), .val (.int x6), .val (.int r_1), .val (.int r_2), .val (.int r_3), .val (.int r_4), .val (.int r_5), .val (.int r_6), .val (.double r_7), .second, .val (.long px), .second, .val (.long py), .second, .val (.long dx), .second, .val (.long dy), .second, .val (.long qx), .second, .val (.long qy), .second, .val (.long ss), .second, .val (.long dt), .second, .unset, .unset, .unset, .unset] []))
  rw [← iss, ← idt] at k3
  rw [← idt] at k1
  rw [← iss, ← idt] at k2
  refine own_on (fun t_ k_ => XS.lload X7.here hx rfl (hb hby at_135) rfl k_) ?_
  show OwnGo p e below s _ _ _ (T7.setTop (mkF m 137 #[.val (.int x1), .val (.int x2), .val (.int x3), .val (.int x4), .val (.int x5), .val (.int x6), .val (.int r_1), .val (.int r_2), .val (.int r_3), .val (.int r_4), .val (.int r_5), .val (.int r_6), .val (.double r_7), .second, .val (.long px), .second, .val (.long py), .second, .val (.long dx), .second, .val (.long dy), .second, .val (.long qx), .second, .val (.long qy), .second, .val (.long ss), .second, .val (.long dt), .second, .unset, .unset, .unset, .unset] [(.long dt)]))
  refine own_on (fun t_ k_ => XS.lconst X7.here hx rfl (hb hby at_137) k_) ?_
  show OwnGo p e below s _ _ _ (T7.setTop (mkF m 138 #[.val (.int x1), .val (.int x2), .val (.int x3), .val (.int x4), .val (.int x5), .val (.int x6), .val (.int r_1), .val (.int r_2), .val (.int r_3), .val (.int r_4), .val (.int r_5), .val (.int r_6), .val (.double r_7), .second, .val (.long px), .second, .val (.long py), .second, .val (.long dx), .second, .val (.long dy), .second, .val (.long qx), .second, .val (.long qy), .second, .val (.long ss), .second, .val (.long dt), .second, .unset, .unset, .unset, .unset] [(.long (0 : Int64)), (.long dt)]))
  refine own_on (fun t_ k_ => XS.lcmp X7.here hx rfl (hb hby at_138) rfl k_) ?_
  show OwnGo p e below s _ _ _ (T7.setTop (mkF m 139 #[.val (.int x1), .val (.int x2), .val (.int x3), .val (.int x4), .val (.int x5), .val (.int x6), .val (.int r_1), .val (.int r_2), .val (.int r_3), .val (.int r_4), .val (.int r_5), .val (.int r_6), .val (.double r_7), .second, .val (.long px), .second, .val (.long py), .second, .val (.long dx), .second, .val (.long dy), .second, .val (.long qx), .second, .val (.long qy), .second, .val (.long ss), .second, .val (.long dt), .second, .unset, .unset, .unset, .unset] [(.int (lcmpW dt (0 : Int64)))]))
  by_cases h0 : dt.toInt ≤ 0
  · refine own_on (fun t_ k_ => XS.ifNo X7.here hx rfl (hb hby at_139) rfl ((if0 _ _).trans (flt (own_lcle0 h0)).2.2.1) k_) ?_
    show OwnGo p e below s _ _ _ (T7.setTop (mkF m 142 #[.val (.int x1), .val (.int x2), .val (.int x3), .val (.int x4), .val (.int x5), .val (.int x6), .val (.int r_1), .val (.int r_2), .val (.int r_3), .val (.int r_4), .val (.int r_5), .val (.int r_6), .val (.double r_7), .second, .val (.long px), .second, .val (.long py), .second, .val (.long dx), .second, .val (.long dy), .second, .val (.long qx), .second, .val (.long qy), .second, .val (.long ss), .second, .val (.long dt), .second, .unset, .unset, .unset, .unset] []))
    refine own_on (fun t_ k_ => XS.dload X7.here hx rfl (hb hby at_142) rfl k_) ?_
    show OwnGo p e below s _ _ _ (T7.setTop (mkF m 144 #[.val (.int x1), .val (.int x2), .val (.int x3), .val (.int x4), .val (.int x5), .val (.int x6), .val (.int r_1), .val (.int r_2), .val (.int r_3), .val (.int r_4), .val (.int r_5), .val (.int r_6), .val (.double r_7), .second, .val (.long px), .second, .val (.long py), .second, .val (.long dx), .second, .val (.long dy), .second, .val (.long qx), .second, .val (.long qy), .second, .val (.long ss), .second, .val (.long dt), .second, .unset, .unset, .unset, .unset] [(.double r_7)]))
    refine own_on (fun t_ k_ => XS.lload X7.here hx rfl (hb hby at_144) rfl k_) ?_
    show OwnGo p e below s _ _ _ (T7.setTop (mkF m 146 #[.val (.int x1), .val (.int x2), .val (.int x3), .val (.int x4), .val (.int x5), .val (.int x6), .val (.int r_1), .val (.int r_2), .val (.int r_3), .val (.int r_4), .val (.int r_5), .val (.int r_6), .val (.double r_7), .second, .val (.long px), .second, .val (.long py), .second, .val (.long dx), .second, .val (.long dy), .second, .val (.long qx), .second, .val (.long qy), .second, .val (.long ss), .second, .val (.long dt), .second, .unset, .unset, .unset, .unset] [(.long px), (.double r_7)]))
    refine own_on (fun t_ k_ => XS.lload X7.here hx rfl (hb hby at_146) rfl k_) ?_
    show OwnGo p e below s _ _ _ (T7.setTop (mkF m 148 #[.val (.int x1), .val (.int x2), .val (.int x3), .val (.int x4), .val (.int x5), .val (.int x6), .val (.int r_1), .val (.int r_2), .val (.int r_3), .val (.int r_4), .val (.int r_5), .val (.int r_6), .val (.double r_7), .second, .val (.long px), .second, .val (.long py), .second, .val (.long dx), .second, .val (.long dy), .second, .val (.long qx), .second, .val (.long qy), .second, .val (.long ss), .second, .val (.long dt), .second, .unset, .unset, .unset, .unset] [(.long px), (.long px), (.double r_7)]))
    refine own_on (fun t_ k_ => XS.lmul X7.here hx rfl (hb hby at_148) rfl k_) ?_
    show OwnGo p e below s _ _ _ (T7.setTop (mkF m 149 #[.val (.int x1), .val (.int x2), .val (.int x3), .val (.int x4), .val (.int x5), .val (.int x6), .val (.int r_1), .val (.int r_2), .val (.int r_3), .val (.int r_4), .val (.int r_5), .val (.int r_6), .val (.double r_7), .second, .val (.long px), .second, .val (.long py), .second, .val (.long dx), .second, .val (.long dy), .second, .val (.long qx), .second, .val (.long qy), .second, .val (.long ss), .second, .val (.long dt), .second, .unset, .unset, .unset, .unset] [(.long (px * px)), (.double r_7)]))
    refine own_on (fun t_ k_ => XS.lload X7.here hx rfl (hb hby at_149) rfl k_) ?_
    show OwnGo p e below s _ _ _ (T7.setTop (mkF m 151 #[.val (.int x1), .val (.int x2), .val (.int x3), .val (.int x4), .val (.int x5), .val (.int x6), .val (.int r_1), .val (.int r_2), .val (.int r_3), .val (.int r_4), .val (.int r_5), .val (.int r_6), .val (.double r_7), .second, .val (.long px), .second, .val (.long py), .second, .val (.long dx), .second, .val (.long dy), .second, .val (.long qx), .second, .val (.long qy), .second, .val (.long ss), .second, .val (.long dt), .second, .unset, .unset, .unset, .unset] [(.long py), (.long (px * px)), (.double r_7)]))
    refine own_on (fun t_ k_ => XS.lload X7.here hx rfl (hb hby at_151) rfl k_) ?_
    show OwnGo p e below s _ _ _ (T7.setTop (mkF m 153 #[.val (.int x1), .val (.int x2), .val (.int x3), .val (.int x4), .val (.int x5), .val (.int x6), .val (.int r_1), .val (.int r_2), .val (.int r_3), .val (.int r_4), .val (.int r_5), .val (.int r_6), .val (.double r_7), .second, .val (.long px), .second, .val (.long py), .second, .val (.long dx), .second, .val (.long dy), .second, .val (.long qx), .second, .val (.long qy), .second, .val (.long ss), .second, .val (.long dt), .second, .unset, .unset, .unset, .unset] [(.long py), (.long py), (.long (px * px)), (.double r_7)]))
    refine own_on (fun t_ k_ => XS.lmul X7.here hx rfl (hb hby at_153) rfl k_) ?_
    show OwnGo p e below s _ _ _ (T7.setTop (mkF m 154 #[.val (.int x1), .val (.int x2), .val (.int x3), .val (.int x4), .val (.int x5), .val (.int x6), .val (.int r_1), .val (.int r_2), .val (.int r_3), .val (.int r_4), .val (.int r_5), .val (.int r_6), .val (.double r_7), .second, .val (.long px), .second, .val (.long py), .second, .val (.long dx), .second, .val (.long dy), .second, .val (.long qx), .second, .val (.long qy), .second, .val (.long ss), .second, .val (.long dt), .second, .unset, .unset, .unset, .unset] [(.long (py * py)), (.long (px * px)), (.double r_7)]))
    refine own_on (fun t_ k_ => XS.ladd X7.here hx rfl (hb hby at_154) rfl k_) ?_
    show OwnGo p e below s _ _ _ (T7.setTop (mkF m 155 #[.val (.int x1), .val (.int x2), .val (.int x3), .val (.int x4), .val (.int x5), .val (.int x6), .val (.int r_1), .val (.int r_2), .val (.int r_3), .val (.int r_4), .val (.int r_5), .val (.int r_6), .val (.double r_7), .second, .val (.long px), .second, .val (.long py), .second, .val (.long dx), .second, .val (.long dy), .second, .val (.long qx), .second, .val (.long qy), .second, .val (.long ss), .second, .val (.long dt), .second, .unset, .unset, .unset, .unset] [(.long ((px * px) + (py * py))), (.double r_7)]))
    obtain ⟨gg, egg⟩ : ∃ v, FP.l2d ((px * px) + (py * py)) = v := ⟨_, rfl⟩
    have hgg : DInt (px.toInt * px.toInt + py.toInt * py.toInt) gg := own_l2d (own_m2 bpx bpx bpy bpy) bpx bpx bpy bpy egg
    refine own_on (fun t_ k_ => XS.l2dS X7.here hx rfl (hb hby at_155) rfl egg k_) ?_
    show OwnGo p e below s _ _ _ (T7.setTop (mkF m 156 #[.val (.int x1), .val (.int x2), .val (.int x3), .val (.int x4), .val (.int x5), .val (.int x6), .val (.int r_1), .val (.int r_2), .val (.int r_3), .val (.int r_4), .val (.int r_5), .val (.int r_6), .val (.double r_7), .second, .val (.long px), .second, .val (.long py), .second, .val (.long dx), .second, .val (.long dy), .second, .val (.long qx), .second, .val (.long qy), .second, .val (.long ss), .second, .val (.long dt), .second, .unset, .unset, .unset, .unset] [(.double gg), (.double r_7)]))
    refine own_on (fun t_ k_ => XS.dcmpS (v := (0 : Int32)) X7.here hx rfl (hb hby at_156) rfl (own_deq (k1 h0) hgg (by exact own_ends0 _ _ _ _) _) k_) ?_
    show OwnGo p e below s _ _ _ (T7.setTop (mkF m 157 #[.val (.int x1), .val (.int x2), .val (.int x3), .val (.int x4), .val (.int x5), .val (.int x6), .val (.int r_1), .val (.int r_2), .val (.int r_3), .val (.int r_4), .val (.int r_5), .val (.int r_6), .val (.double r_7), .second, .val (.long px), .second, .val (.long py), .second, .val (.long dx), .second, .val (.long dy), .second, .val (.long qx), .second, .val (.long qy), .second, .val (.long ss), .second, .val (.long dt), .second, .unset, .unset, .unset, .unset] [(.int (0 : Int32))]))
    refine own_on (fun t_ k_ => XS.ifNo X7.here hx rfl (hb hby at_157) rfl ((if0 _ _).trans (teq (by decide : (0 : Int32) = (0 : Int32))).2) k_) ?_
    show OwnGo p e below s _ _ _ (T7.setTop (mkF m 160 #[.val (.int x1), .val (.int x2), .val (.int x3), .val (.int x4), .val (.int x5), .val (.int x6), .val (.int r_1), .val (.int r_2), .val (.int r_3), .val (.int r_4), .val (.int r_5), .val (.int r_6), .val (.double r_7), .second, .val (.long px), .second, .val (.long py), .second, .val (.long dx), .second, .val (.long dy), .second, .val (.long qx), .second, .val (.long qy), .second, .val (.long ss), .second, .val (.long dt), .second, .unset, .unset, .unset, .unset] []))
    refine own_on (fun t_ k_ => XS.iconst X7.here hx rfl (hb hby at_160) k_) ?_
    show OwnGo p e below s _ _ _ (T7.setTop (mkF m 161 #[.val (.int x1), .val (.int x2), .val (.int x3), .val (.int x4), .val (.int x5), .val (.int x6), .val (.int r_1), .val (.int r_2), .val (.int r_3), .val (.int r_4), .val (.int r_5), .val (.int r_6), .val (.double r_7), .second, .val (.long px), .second, .val (.long py), .second, .val (.long dx), .second, .val (.long dy), .second, .val (.long qx), .second, .val (.long qy), .second, .val (.long ss), .second, .val (.long dt), .second, .unset, .unset, .unset, .unset] [(.int (1 : Int32))]))
    refine own_on (fun t_ k_ => XS.goto X7.here hx rfl (pc0 := 161) (pc' := 165) rfl (hb hby at_161) (by decide) (by decide) k_) ?_
    show OwnGo p e below s _ _ _ (T7.setTop (mkF m 165 #[.val (.int x1), .val (.int x2), .val (.int x3), .val (.int x4), .val (.int x5), .val (.int x6), .val (.int r_1), .val (.int r_2), .val (.int r_3), .val (.int r_4), .val (.int r_5), .val (.int r_6), .val (.double r_7), .second, .val (.long px), .second, .val (.long py), .second, .val (.long dx), .second, .val (.long dy), .second, .val (.long qx), .second, .val (.long qy), .second, .val (.long ss), .second, .val (.long dt), .second, .unset, .unset, .unset, .unset] [(.int (1 : Int32))]))
    exact own_retN X7 hx hlk (t := .boolean) Bd.returns (by simp) (hb hby at_165) e7 ⟨rfl, N7, rfl⟩ (by decide) (by decide)
  · have h0' : 0 < dt.toInt := by omega
    refine own_on (fun t_ k_ => XS.ifYes X7.here hx rfl (pc0 := 139) (pc' := 166) rfl (hb hby at_139) rfl ((if0 _ _).trans (tlt (own_lcgt0 h0')).2.2.1) (by decide) (by decide) k_) ?_
    show OwnGo p e below s _ _ _ (T7.setTop (mkF m 166 #[.val (.int x1), .val (.int x2), .val (.int x3), .val (.int x4), .val (.int x5), .val (.int x6), .val (.int r_1), .val (.int r_2), .val (.int r_3), .val (.int r_4), .val (.int r_5), .val (.int r_6), .val (.double r_7), .second, .val (.long px), .second, .val (.long py), .second, .val (.long dx), .second, .val (.long dy), .second, .val (.long qx), .second, .val (.long qy), .second, .val (.long ss), .second, .val (.long dt), .second, .unset, .unset, .unset, .unset] []))
    refine own_on (fun t_ k_ => XS.lload X7.here hx rfl (hb hby at_166) rfl k_) ?_
    show OwnGo p e below s _ _ _ (T7.setTop (mkF m 168 #[.val (.int x1), .val (.int x2), .val (.int x3), .val (.int x4), .val (.int x5), .val (.int x6), .val (.int r_1), .val (.int r_2), .val (.int r_3), .val (.int r_4), .val (.int r_5), .val (.int r_6), .val (.double r_7), .second, .val (.long px), .second, .val (.long py), .second, .val (.long dx), .second, .val (.long dy), .second, .val (.long qx), .second, .val (.long qy), .second, .val (.long ss), .second, .val (.long dt), .second, .unset, .unset, .unset, .unset] [(.long dt)]))
    refine own_on (fun t_ k_ => XS.lload X7.here hx rfl (hb hby at_168) rfl k_) ?_
    show OwnGo p e below s _ _ _ (T7.setTop (mkF m 170 #[.val (.int x1), .val (.int x2), .val (.int x3), .val (.int x4), .val (.int x5), .val (.int x6), .val (.int r_1), .val (.int r_2), .val (.int r_3), .val (.int r_4), .val (.int r_5), .val (.int r_6), .val (.double r_7), .second, .val (.long px), .second, .val (.long py), .second, .val (.long dx), .second, .val (.long dy), .second, .val (.long qx), .second, .val (.long qy), .second, .val (.long ss), .second, .val (.long dt), .second, .unset, .unset, .unset, .unset] [(.long ss), (.long dt)]))
    refine own_on (fun t_ k_ => XS.lcmp X7.here hx rfl (hb hby at_170) rfl k_) ?_
    show OwnGo p e below s _ _ _ (T7.setTop (mkF m 171 #[.val (.int x1), .val (.int x2), .val (.int x3), .val (.int x4), .val (.int x5), .val (.int x6), .val (.int r_1), .val (.int r_2), .val (.int r_3), .val (.int r_4), .val (.int r_5), .val (.int r_6), .val (.double r_7), .second, .val (.long px), .second, .val (.long py), .second, .val (.long dx), .second, .val (.long dy), .second, .val (.long qx), .second, .val (.long qy), .second, .val (.long ss), .second, .val (.long dt), .second, .unset, .unset, .unset, .unset] [(.int (lcmpW dt ss))]))
    by_cases h1 : ss.toInt ≤ dt.toInt
    · refine own_on (fun t_ k_ => XS.ifNo X7.here hx rfl (hb hby at_171) rfl ((if0 _ _).trans (flt (own_lcge h1)).1) k_) ?_
      show OwnGo p e below s _ _ _ (T7.setTop (mkF m 174 #[.val (.int x1), .val (.int x2), .val (.int x3), .val (.int x4), .val (.int x5), .val (.int x6), .val (.int r_1), .val (.int r_2), .val (.int r_3), .val (.int r_4), .val (.int r_5), .val (.int r_6), .val (.double r_7), .second, .val (.long px), .second, .val (.long py), .second, .val (.long dx), .second, .val (.long dy), .second, .val (.long qx), .second, .val (.long qy), .second, .val (.long ss), .second, .val (.long dt), .second, .unset, .unset, .unset, .unset] []))
      refine own_on (fun t_ k_ => XS.dload X7.here hx rfl (hb hby at_174) rfl k_) ?_
      show OwnGo p e below s _ _ _ (T7.setTop (mkF m 176 #[.val (.int x1), .val (.int x2), .val (.int x3), .val (.int x4), .val (.int x5), .val (.int x6), .val (.int r_1), .val (.int r_2), .val (.int r_3), .val (.int r_4), .val (.int r_5), .val (.int r_6), .val (.double r_7), .second, .val (.long px), .second, .val (.long py), .second, .val (.long dx), .second, .val (.long dy), .second, .val (.long qx), .second, .val (.long qy), .second, .val (.long ss), .second, .val (.long dt), .second, .unset, .unset, .unset, .unset] [(.double r_7)]))
      refine own_on (fun t_ k_ => XS.lload X7.here hx rfl (hb hby at_176) rfl k_) ?_
      show OwnGo p e below s _ _ _ (T7.setTop (mkF m 178 #[.val (.int x1), .val (.int x2), .val (.int x3), .val (.int x4), .val (.int x5), .val (.int x6), .val (.int r_1), .val (.int r_2), .val (.int r_3), .val (.int r_4), .val (.int r_5), .val (.int r_6), .val (.double r_7), .second, .val (.long px), .second, .val (.long py), .second, .val (.long dx), .second, .val (.long dy), .second, .val (.long qx), .second, .val (.long qy), .second, .val (.long ss), .second, .val (.long dt), .second, .unset, .unset, .unset, .unset] [(.long qx), (.double r_7)]))
      refine own_on (fun t_ k_ => XS.lload X7.here hx rfl (hb hby at_178) rfl k_) ?_
      show OwnGo p e below s _ _ _ (T7.setTop (mkF m 180 #[.val (.int x1), .val (.int x2), .val (.int x3), .val (.int x4), .val (.int x5), .val (.int x6), .val (.int r_1), .val (.int r_2), .val (.int r_3), .val (.int r_4), .val (.int r_5), .val (.int r_6), .val (.double r_7), .second, .val (.long px), .second, .val (.long py), .second, .val (.long dx), .second, .val (.long dy), .second, .val (.long qx), .second, .val (.long qy), .second, .val (.long ss), .second, .val (.long dt), .second, .unset, .unset, .unset, .unset] [(.long qx), (.long qx), (.double r_7)]))
      refine own_on (fun t_ k_ => XS.lmul X7.here hx rfl (hb hby at_180) rfl k_) ?_
      show OwnGo p e below s _ _ _ (T7.setTop (mkF m 181 #[.val (.int x1), .val (.int x2), .val (.int x3), .val (.int x4), .val (.int x5), .val (.int x6), .val (.int r_1), .val (.int r_2), .val (.int r_3), .val (.int r_4), .val (.int r_5), .val (.int r_6), .val (.double r_7), .second, .val (.long px), .second, .val (.long py), .second, .val (.long dx), .second, .val (.long dy), .second, .val (.long qx), .second, .val (.long qy), .second, .val (.long ss), .second, .val (.long dt), .second, .unset, .unset, .unset, .unset] [(.long (qx * qx)), (.double r_7)]))
      refine own_on (fun t_ k_ => XS.lload X7.here hx rfl (hb hby at_181) rfl k_) ?_
      show OwnGo p e below s _ _ _ (T7.setTop (mkF m 183 #[.val (.int x1), .val (.int x2), .val (.int x3), .val (.int x4), .val (.int x5), .val (.int x6), .val (.int r_1), .val (.int r_2), .val (.int r_3), .val (.int r_4), .val (.int r_5), .val (.int r_6), .val (.double r_7), .second, .val (.long px), .second, .val (.long py), .second, .val (.long dx), .second, .val (.long dy), .second, .val (.long qx), .second, .val (.long qy), .second, .val (.long ss), .second, .val (.long dt), .second, .unset, .unset, .unset, .unset] [(.long qy), (.long (qx * qx)), (.double r_7)]))
      refine own_on (fun t_ k_ => XS.lload X7.here hx rfl (hb hby at_183) rfl k_) ?_
      show OwnGo p e below s _ _ _ (T7.setTop (mkF m 185 #[.val (.int x1), .val (.int x2), .val (.int x3), .val (.int x4), .val (.int x5), .val (.int x6), .val (.int r_1), .val (.int r_2), .val (.int r_3), .val (.int r_4), .val (.int r_5), .val (.int r_6), .val (.double r_7), .second, .val (.long px), .second, .val (.long py), .second, .val (.long dx), .second, .val (.long dy), .second, .val (.long qx), .second, .val (.long qy), .second, .val (.long ss), .second, .val (.long dt), .second, .unset, .unset, .unset, .unset] [(.long qy), (.long qy), (.long (qx * qx)), (.double r_7)]))
      refine own_on (fun t_ k_ => XS.lmul X7.here hx rfl (hb hby at_185) rfl k_) ?_
      show OwnGo p e below s _ _ _ (T7.setTop (mkF m 186 #[.val (.int x1), .val (.int x2), .val (.int x3), .val (.int x4), .val (.int x5), .val (.int x6), .val (.int r_1), .val (.int r_2), .val (.int r_3), .val (.int r_4), .val (.int r_5), .val (.int r_6), .val (.double r_7), .second, .val (.long px), .second, .val (.long py), .second, .val (.long dx), .second, .val (.long dy), .second, .val (.long qx), .second, .val (.long qy), .second, .val (.long ss), .second, .val (.long dt), .second, .unset, .unset, .unset, .unset] [(.long (qy * qy)), (.long (qx * qx)), (.double r_7)]))
      refine own_on (fun t_ k_ => XS.ladd X7.here hx rfl (hb hby at_186) rfl k_) ?_
      show OwnGo p e below s _ _ _ (T7.setTop (mkF m 187 #[.val (.int x1), .val (.int x2), .val (.int x3), .val (.int x4), .val (.int x5), .val (.int x6), .val (.int r_1), .val (.int r_2), .val (.int r_3), .val (.int r_4), .val (.int r_5), .val (.int r_6), .val (.double r_7), .second, .val (.long px), .second, .val (.long py), .second, .val (.long dx), .second, .val (.long dy), .second, .val (.long qx), .second, .val (.long qy), .second, .val (.long ss), .second, .val (.long dt), .second, .unset, .unset, .unset, .unset] [(.long ((qx * qx) + (qy * qy))), (.double r_7)]))
      obtain ⟨gg, egg⟩ : ∃ v, FP.l2d ((qx * qx) + (qy * qy)) = v := ⟨_, rfl⟩
      have hgg : DInt (qx.toInt * qx.toInt + qy.toInt * qy.toInt) gg := own_l2d (own_m2 bqx bqx bqy bqy) bqx bqx bqy bqy egg
      refine own_on (fun t_ k_ => XS.l2dS X7.here hx rfl (hb hby at_187) rfl egg k_) ?_
      show OwnGo p e below s _ _ _ (T7.setTop (mkF m 188 #[.val (.int x1), .val (.int x2), .val (.int x3), .val (.int x4), .val (.int x5), .val (.int x6), .val (.int r_1), .val (.int r_2), .val (.int r_3), .val (.int r_4), .val (.int r_5), .val (.int r_6), .val (.double r_7), .second, .val (.long px), .second, .val (.long py), .second, .val (.long dx), .second, .val (.long dy), .second, .val (.long qx), .second, .val (.long qy), .second, .val (.long ss), .second, .val (.long dt), .second, .unset, .unset, .unset, .unset] [(.double gg), (.double r_7)]))
      refine own_on (fun t_ k_ => XS.dcmpS (v := (0 : Int32)) X7.here hx rfl (hb hby at_188) rfl (own_deq (k2 h0' h1) hgg (by rw [iqx, iqy, ipx, ipy, idx, idy]; exact own_ends _ _ _ _ _ _) _) k_) ?_
      show OwnGo p e below s _ _ _ (T7.setTop (mkF m 189 #[.val (.int x1), .val (.int x2), .val (.int x3), .val (.int x4), .val (.int x5), .val (.int x6), .val (.int r_1), .val (.int r_2), .val (.int r_3), .val (.int r_4), .val (.int r_5), .val (.int r_6), .val (.double r_7), .second, .val (.long px), .second, .val (.long py), .second, .val (.long dx), .second, .val (.long dy), .second, .val (.long qx), .second, .val (.long qy), .second, .val (.long ss), .second, .val (.long dt), .second, .unset, .unset, .unset, .unset] [(.int (0 : Int32))]))
      refine own_on (fun t_ k_ => XS.ifNo X7.here hx rfl (hb hby at_189) rfl ((if0 _ _).trans (teq (by decide : (0 : Int32) = (0 : Int32))).2) k_) ?_
      show OwnGo p e below s _ _ _ (T7.setTop (mkF m 192 #[.val (.int x1), .val (.int x2), .val (.int x3), .val (.int x4), .val (.int x5), .val (.int x6), .val (.int r_1), .val (.int r_2), .val (.int r_3), .val (.int r_4), .val (.int r_5), .val (.int r_6), .val (.double r_7), .second, .val (.long px), .second, .val (.long py), .second, .val (.long dx), .second, .val (.long dy), .second, .val (.long qx), .second, .val (.long qy), .second, .val (.long ss), .second, .val (.long dt), .second, .unset, .unset, .unset, .unset] []))
      refine own_on (fun t_ k_ => XS.iconst X7.here hx rfl (hb hby at_192) k_) ?_
      show OwnGo p e below s _ _ _ (T7.setTop (mkF m 193 #[.val (.int x1), .val (.int x2), .val (.int x3), .val (.int x4), .val (.int x5), .val (.int x6), .val (.int r_1), .val (.int r_2), .val (.int r_3), .val (.int r_4), .val (.int r_5), .val (.int r_6), .val (.double r_7), .second, .val (.long px), .second, .val (.long py), .second, .val (.long dx), .second, .val (.long dy), .second, .val (.long qx), .second, .val (.long qy), .second, .val (.long ss), .second, .val (.long dt), .second, .unset, .unset, .unset, .unset] [(.int (1 : Int32))]))
      refine own_on (fun t_ k_ => XS.goto X7.here hx rfl (pc0 := 193) (pc' := 197) rfl (hb hby at_193) (by decide) (by decide) k_) ?_
      show OwnGo p e below s _ _ _ (T7.setTop (mkF m 197 #[.val (.int x1), .val (.int x2), .val (.int x3), .val (.int x4), .val (.int x5), .val (.int x6), .val (.int r_1), .val (.int r_2), .val (.int r_3), .val (.int r_4), .val (.int r_5), .val (.int r_6), .val (.double r_7), .second, .val (.long px), .second, .val (.long py), .second, .val (.long dx), .second, .val (.long dy), .second, .val (.long qx), .second, .val (.long qy), .second, .val (.long ss), .second, .val (.long dt), .second, .unset, .unset, .unset, .unset] [(.int (1 : Int32))]))
      exact own_retN X7 hx hlk (t := .boolean) Bd.returns (by simp) (hb hby at_197) e7 ⟨rfl, N7, rfl⟩ (by decide) (by decide)
    · have h1' : dt.toInt < ss.toInt := by omega
      refine own_on (fun t_ k_ => XS.ifYes X7.here hx rfl (pc0 := 171) (pc' := 198) rfl (hb hby at_171) rfl ((if0 _ _).trans (tlt (own_lclt h1')).1) (by decide) (by decide) k_) ?_
      show OwnGo p e below s _ _ _ (T7.setTop (mkF m 198 #[.val (.int x1), .val (.int x2), .val (.int x3), .val (.int x4), .val (.int x5), .val (.int x6), .val (.int r_1), .val (.int r_2), .val (.int r_3), .val (.int r_4), .val (.int r_5), .val (.int r_6), .val (.double r_7), .second, .val (.long px), .second, .val (.long py), .second, .val (.long dx), .second, .val (.long dy), .second, .val (.long qx), .second, .val (.long qy), .second, .val (.long ss), .second, .val (.long dt), .second, .unset, .unset, .unset, .unset] []))
      refine own_on (fun t_ k_ => XS.lload X7.here hx rfl (hb hby at_198) rfl k_) ?_
      show OwnGo p e below s _ _ _ (T7.setTop (mkF m 200 #[.val (.int x1), .val (.int x2), .val (.int x3), .val (.int x4), .val (.int x5), .val (.int x6), .val (.int r_1), .val (.int r_2), .val (.int r_3), .val (.int r_4), .val (.int r_5), .val (.int r_6), .val (.double r_7), .second, .val (.long px), .second, .val (.long py), .second, .val (.long dx), .second, .val (.long dy), .second, .val (.long qx), .second, .val (.long qy), .second, .val (.long ss), .second, .val (.long dt), .second, .unset, .unset, .unset, .unset] [(.long px)]))
      refine own_on (fun t_ k_ => XS.lload X7.here hx rfl (hb hby at_200) rfl k_) ?_
      show OwnGo p e below s _ _ _ (T7.setTop (mkF m 202 #[.val (.int x1), .val (.int x2), .val (.int x3), .val (.int x4), .val (.int x5), .val (.int x6), .val (.int r_1), .val (.int r_2), .val (.int r_3), .val (.int r_4), .val (.int r_5), .val (.int r_6), .val (.double r_7), .second, .val (.long px), .second, .val (.long py), .second, .val (.long dx), .second, .val (.long dy), .second, .val (.long qx), .second, .val (.long qy), .second, .val (.long ss), .second, .val (.long dt), .second, .unset, .unset, .unset, .unset] [(.long dy), (.long px)]))
      refine own_on (fun t_ k_ => XS.lmul X7.here hx rfl (hb hby at_202) rfl k_) ?_
      show OwnGo p e below s _ _ _ (T7.setTop (mkF m 203 #[.val (.int x1), .val (.int x2), .val (.int x3), .val (.int x4), .val (.int x5), .val (.int x6), .val (.int r_1), .val (.int r_2), .val (.int r_3), .val (.int r_4), .val (.int r_5), .val (.int r_6), .val (.double r_7), .second, .val (.long px), .second, .val (.long py), .second, .val (.long dx), .second, .val (.long dy), .second, .val (.long qx), .second, .val (.long qy), .second, .val (.long ss), .second, .val (.long dt), .second, .unset, .unset, .unset, .unset] [(.long (px * dy))]))
      refine own_on (fun t_ k_ => XS.lload X7.here hx rfl (hb hby at_203) rfl k_) ?_
      show OwnGo p e below s _ _ _ (T7.setTop (mkF m 205 #[.val (.int x1), .val (.int x2), .val (.int x3), .val (.int x4), .val (.int x5), .val (.int x6), .val (.int r_1), .val (.int r_2), .val (.int r_3), .val (.int r_4), .val (.int r_5), .val (.int r_6), .val (.double r_7), .second, .val (.long px), .second, .val (.long py), .second, .val (.long dx), .second, .val (.long dy), .second, .val (.long qx), .second, .val (.long qy), .second, .val (.long ss), .second, .val (.long dt), .second, .unset, .unset, .unset, .unset] [(.long py), (.long (px * dy))]))
      refine own_on (fun t_ k_ => XS.lload X7.here hx rfl (hb hby at_205) rfl k_) ?_
      show OwnGo p e below s _ _ _ (T7.setTop (mkF m 207 #[.val (.int x1), .val (.int x2), .val (.int x3), .val (.int x4), .val (.int x5), .val (.int x6), .val (.int r_1), .val (.int r_2), .val (.int r_3), .val (.int r_4), .val (.int r_5), .val (.int r_6), .val (.double r_7), .second, .val (.long px), .second, .val (.long py), .second, .val (.long dx), .second, .val (.long dy), .second, .val (.long qx), .second, .val (.long qy), .second, .val (.long ss), .second, .val (.long dt), .second, .unset, .unset, .unset, .unset] [(.long dx), (.long py), (.long (px * dy))]))
      refine own_on (fun t_ k_ => XS.lmul X7.here hx rfl (hb hby at_207) rfl k_) ?_
      show OwnGo p e below s _ _ _ (T7.setTop (mkF m 208 #[.val (.int x1), .val (.int x2), .val (.int x3), .val (.int x4), .val (.int x5), .val (.int x6), .val (.int r_1), .val (.int r_2), .val (.int r_3), .val (.int r_4), .val (.int r_5), .val (.int r_6), .val (.double r_7), .second, .val (.long px), .second, .val (.long py), .second, .val (.long dx), .second, .val (.long dy), .second, .val (.long qx), .second, .val (.long qy), .second, .val (.long ss), .second, .val (.long dt), .second, .unset, .unset, .unset, .unset] [(.long (py * dx)), (.long (px * dy))]))
      refine own_on (fun t_ k_ => XS.lsub X7.here hx rfl (hb hby at_208) rfl k_) ?_
      show OwnGo p e below s _ _ _ (T7.setTop (mkF m 209 #[.val (.int x1), .val (.int x2), .val (.int x3), .val (.int x4), .val (.int x5), .val (.int x6), .val (.int r_1), .val (.int r_2), .val (.int r_3), .val (.int r_4), .val (.int r_5), .val (.int r_6), .val (.double r_7), .second, .val (.long px), .second, .val (.long py), .second, .val (.long dx), .second, .val (.long dy), .second, .val (.long qx), .second, .val (.long qy), .second, .val (.long ss), .second, .val (.long dt), .second, .unset, .unset, .unset, .unset] [(.long ((px * dy) - (py * dx)))]))
      refine own_on (fun t_ k_ => XS.lstore X7.here hx rfl (hb hby at_209) rfl (l' := #[.val (.int x1), .val (.int x2), .val (.int x3), .val (.int x4), .val (.int x5), .val (.int x6), .val (.int r_1), .val (.int r_2), .val (.int r_3), .val (.int r_4), .val (.int r_5), .val (.int r_6), .val (.double r_7), .second, .val (.long px), .second, .val (.long py), .second, .val (.long dx), .second, .val (.long dy), .second, .val (.long qx), .second, .val (.long qy), .second, .val (.long ss), .second, .val (.long dt), .second, .val (.long ((px * dy) - (py * dx))), .second, .unset, .unset]) rfl k_) ?_
      show OwnGo p e below s _ _ _ (T7.setTop (mkF m 211 #[.val (.int x1), .val (.int x2), .val (.int x3), .val (.int x4), .val (.int x5), .val (.int x6), .val (.int r_1), .val (.int r_2), .val (.int r_3), .val (.int r_4), .val (.int r_5), .val (.int r_6), .val (.double r_7), .second, .val (.long px), .second, .val (.long py), .second, .val (.long dx), .second, .val (.long dy), .second, .val (.long qx), .second, .val (.long qy), .second, .val (.long ss), .second, .val (.long dt), .second, .val (.long ((px * dy) - (py * dx))), .second, .unset, .unset] []))
      obtain ⟨cr, ecr⟩ : ∃ z : Int64, ((px * dy) - (py * dx)) = z := ⟨_, rfl⟩
      have icr := (congrArg Int64.toInt ecr).symm.trans (own_m3 bpx bdy bpy bdx)
      have bcr := own_bcr bpx bdy bpy bdx
      rw [← icr] at bcr
      rw [show ((px * dy) - (py * dx)) = cr from ecr]
      show OwnGo p e below s _ _ _ (T7.setTop (mkF m 211 #[.val (.int x1), .val (.int x2), .val (.int x3), .val (.int x4), .val (.int x5), .val (.int x6), .val (.int r_1), .val (.int r_2), .val (.int r_3), .val (.int r_4), .val (.int r_5), .val (.int r_6), .val (.double r_7), .second, .val (.long px), .second, .val (.long py), .second, .val (.long dx), .second, .val (.long dy), .second, .val (.long qx), .second, .val (.long qy), .second, .val (.long ss), .second, .val (.long dt), .second, .val (.long cr), .second, .unset, .unset] []))
      refine own_on (fun t_ k_ => XS.lload X7.here hx rfl (hb hby at_211) rfl k_) ?_
      show OwnGo p e below s _ _ _ (T7.setTop (mkF m 213 #[.val (.int x1), .val (.int x2), .val (.int x3), .val (.int x4), .val (.int x5), .val (.int x6), .val (.int r_1), .val (.int r_2), .val (.int r_3), .val (.int r_4), .val (.int r_5), .val (.int r_6), .val (.double r_7), .second, .val (.long px), .second, .val (.long py), .second, .val (.long dx), .second, .val (.long dy), .second, .val (.long qx), .second, .val (.long qy), .second, .val (.long ss), .second, .val (.long dt), .second, .val (.long cr), .second, .unset, .unset] [(.long cr)]))
      refine own_on (fun t_ k_ => XS.lload X7.here hx rfl (hb hby at_213) rfl k_) ?_
      show OwnGo p e below s _ _ _ (T7.setTop (mkF m 215 #[.val (.int x1), .val (.int x2), .val (.int x3), .val (.int x4), .val (.int x5), .val (.int x6), .val (.int r_1), .val (.int r_2), .val (.int r_3), .val (.int r_4), .val (.int r_5), .val (.int r_6), .val (.double r_7), .second, .val (.long px), .second, .val (.long py), .second, .val (.long dx), .second, .val (.long dy), .second, .val (.long qx), .second, .val (.long qy), .second, .val (.long ss), .second, .val (.long dt), .second, .val (.long cr), .second, .unset, .unset] [(.long cr), (.long cr)]))
      refine own_on (fun t_ k_ => XS.lmul X7.here hx rfl (hb hby at_215) rfl k_) ?_
      show OwnGo p e below s _ _ _ (T7.setTop (mkF m 216 #[.val (.int x1), .val (.int x2), .val (.int x3), .val (.int x4), .val (.int x5), .val (.int x6), .val (.int r_1), .val (.int r_2), .val (.int r_3), .val (.int r_4), .val (.int r_5), .val (.int r_6), .val (.double r_7), .second, .val (.long px), .second, .val (.long py), .second, .val (.long dx), .second, .val (.long dy), .second, .val (.long qx), .second, .val (.long qy), .second, .val (.long ss), .second, .val (.long dt), .second, .val (.long cr), .second, .unset, .unset] [(.long (cr * cr))]))
      refine own_on (fun t_ k_ => XS.lload X7.here hx rfl (hb hby at_216) rfl k_) ?_
      show OwnGo p e below s _ _ _ (T7.setTop (mkF m 218 #[.val (.int x1), .val (.int x2), .val (.int x3), .val (.int x4), .val (.int x5), .val (.int x6), .val (.int r_1), .val (.int r_2), .val (.int r_3), .val (.int r_4), .val (.int r_5), .val (.int r_6), .val (.double r_7), .second, .val (.long px), .second, .val (.long py), .second, .val (.long dx), .second, .val (.long dy), .second, .val (.long qx), .second, .val (.long qy), .second, .val (.long ss), .second, .val (.long dt), .second, .val (.long cr), .second, .unset, .unset] [(.long ss), (.long (cr * cr))]))
      refine own_on (fun t_ k_ => XS.ldiv X7.here hx rfl (hb hby at_218) rfl (own_ne0 (by omega)) k_) ?_
      show OwnGo p e below s _ _ _ (T7.setTop (mkF m 219 #[.val (.int x1), .val (.int x2), .val (.int x3), .val (.int x4), .val (.int x5), .val (.int x6), .val (.int r_1), .val (.int r_2), .val (.int r_3), .val (.int r_4), .val (.int r_5), .val (.int r_6), .val (.double r_7), .second, .val (.long px), .second, .val (.long py), .second, .val (.long dx), .second, .val (.long dy), .second, .val (.long qx), .second, .val (.long qy), .second, .val (.long ss), .second, .val (.long dt), .second, .val (.long cr), .second, .unset, .unset] [(.long ((cr * cr) / ss))]))
      obtain ⟨lo, elo⟩ : ∃ z : Int64, ((cr * cr) / ss) = z := ⟨_, rfl⟩
      have ilo := own_lodiv bcr.1 bcr.2 (by omega) elo
      rw [show ((cr * cr) / ss) = lo from elo]
      show OwnGo p e below s _ _ _ (T7.setTop (mkF m 219 #[.val (.int x1), .val (.int x2), .val (.int x3), .val (.int x4), .val (.int x5), .val (.int x6), .val (.int r_1), .val (.int r_2), .val (.int r_3), .val (.int r_4), .val (.int r_5), .val (.int r_6), .val (.double r_7), .second, .val (.long px), .second, .val (.long py), .second, .val (.long dx), .second, .val (.long dy), .second, .val (.long qx), .second, .val (.long qy), .second, .val (.long ss), .second, .val (.long dt), .second, .val (.long cr), .second, .unset, .unset] [(.long lo)]))
      obtain ⟨r1, r2, r3, r4⟩ := k3 h0' h1'
      obtain ⟨l1, l2, l3, l4⟩ := own_lo (lo := lo.toInt) bpx bpy (by rw [← iss]; omega) (by rw [ilo, icr, iss])
      obtain ⟨gg, egg⟩ : ∃ v, FP.l2d lo = v := ⟨_, rfl⟩
      obtain ⟨mm, emm⟩ : ∃ v, FP.dsub gg (4598175219545276416 : UInt64) = v := ⟨_, rfl⟩
      obtain ⟨nn, enn⟩ : ∃ v, FP.dadd gg (4608308318706860032 : UInt64) = v := ⟨_, rfl⟩
      have hgg : DInt lo.toInt gg := egg ▸ l2d_int (by omega)
      rw [iss] at r3 r4
      obtain ⟨fm, fn, cm, cn⟩ := own_fence (by rw [← iss]; omega) r1 r3 r4 l1 l2 l3 l4 hgg emm enn
      refine own_on (fun t_ k_ => XS.lstore X7.here hx rfl (hb hby at_219) rfl (l' := #[.val (.int x1), .val (.int x2), .val (.int x3), .val (.int x4), .val (.int x5), .val (.int x6), .val (.int r_1), .val (.int r_2), .val (.int r_3), .val (.int r_4), .val (.int r_5), .val (.int r_6), .val (.double r_7), .second, .val (.long px), .second, .val (.long py), .second, .val (.long dx), .second, .val (.long dy), .second, .val (.long qx), .second, .val (.long qy), .second, .val (.long ss), .second, .val (.long dt), .second, .val (.long cr), .second, .val (.long lo), .second]) rfl k_) ?_
      show OwnGo p e below s _ _ _ (T7.setTop (mkF m 221 #[.val (.int x1), .val (.int x2), .val (.int x3), .val (.int x4), .val (.int x5), .val (.int x6), .val (.int r_1), .val (.int r_2), .val (.int r_3), .val (.int r_4), .val (.int r_5), .val (.int r_6), .val (.double r_7), .second, .val (.long px), .second, .val (.long py), .second, .val (.long dx), .second, .val (.long dy), .second, .val (.long qx), .second, .val (.long qy), .second, .val (.long ss), .second, .val (.long dt), .second, .val (.long cr), .second, .val (.long lo), .second] []))
      refine own_on (fun t_ k_ => XS.dload X7.here hx rfl (hb hby at_221) rfl k_) ?_
      show OwnGo p e below s _ _ _ (T7.setTop (mkF m 223 #[.val (.int x1), .val (.int x2), .val (.int x3), .val (.int x4), .val (.int x5), .val (.int x6), .val (.int r_1), .val (.int r_2), .val (.int r_3), .val (.int r_4), .val (.int r_5), .val (.int r_6), .val (.double r_7), .second, .val (.long px), .second, .val (.long py), .second, .val (.long dx), .second, .val (.long dy), .second, .val (.long qx), .second, .val (.long qy), .second, .val (.long ss), .second, .val (.long dt), .second, .val (.long cr), .second, .val (.long lo), .second] [(.double r_7)]))
      refine own_on (fun t_ k_ => XS.dconst0 X7.here hx rfl (hb hby at_223) rfl k_) ?_
      show OwnGo p e below s _ _ _ (T7.setTop (mkF m 224 #[.val (.int x1), .val (.int x2), .val (.int x3), .val (.int x4), .val (.int x5), .val (.int x6), .val (.int r_1), .val (.int r_2), .val (.int r_3), .val (.int r_4), .val (.int r_5), .val (.int r_6), .val (.double r_7), .second, .val (.long px), .second, .val (.long py), .second, .val (.long dx), .second, .val (.long dy), .second, .val (.long qx), .second, .val (.long qy), .second, .val (.long ss), .second, .val (.long dt), .second, .val (.long cr), .second, .val (.long lo), .second] [(.double FP.dconst0), (.double r_7)]))
      by_cases hz : own_v r_7 = 0
      · refine own_on (fun t_ k_ => XS.dcmpS (v := (0 : Int32)) X7.here hx rfl (hb hby at_224) rfl (own_veq r1 own_d0 hz _) k_) ?_
        show OwnGo p e below s _ _ _ (T7.setTop (mkF m 225 #[.val (.int x1), .val (.int x2), .val (.int x3), .val (.int x4), .val (.int x5), .val (.int x6), .val (.int r_1), .val (.int r_2), .val (.int r_3), .val (.int r_4), .val (.int r_5), .val (.int r_6), .val (.double r_7), .second, .val (.long px), .second, .val (.long py), .second, .val (.long dx), .second, .val (.long dy), .second, .val (.long qx), .second, .val (.long qy), .second, .val (.long ss), .second, .val (.long dt), .second, .val (.long cr), .second, .val (.long lo), .second] [(.int (0 : Int32))]))
        refine own_on (fun t_ k_ => XS.ifNo X7.here hx rfl (hb hby at_225) rfl ((if0 _ _).trans (flt (by decide : ¬ ((0 : Int32) < (0 : Int32)))).1) k_) ?_
        show OwnGo p e below s _ _ _ (T7.setTop (mkF m 228 #[.val (.int x1), .val (.int x2), .val (.int x3), .val (.int x4), .val (.int x5), .val (.int x6), .val (.int r_1), .val (.int r_2), .val (.int r_3), .val (.int r_4), .val (.int r_5), .val (.int r_6), .val (.double r_7), .second, .val (.long px), .second, .val (.long py), .second, .val (.long dx), .second, .val (.long dy), .second, .val (.long qx), .second, .val (.long qy), .second, .val (.long ss), .second, .val (.long dt), .second, .val (.long cr), .second, .val (.long lo), .second] []))
        refine own_on (fun t_ k_ => XS.dload X7.here hx rfl (hb hby at_228) rfl k_) ?_
        show OwnGo p e below s _ _ _ (T7.setTop (mkF m 230 #[.val (.int x1), .val (.int x2), .val (.int x3), .val (.int x4), .val (.int x5), .val (.int x6), .val (.int r_1), .val (.int r_2), .val (.int r_3), .val (.int r_4), .val (.int r_5), .val (.int r_6), .val (.double r_7), .second, .val (.long px), .second, .val (.long py), .second, .val (.long dx), .second, .val (.long dy), .second, .val (.long qx), .second, .val (.long qy), .second, .val (.long ss), .second, .val (.long dt), .second, .val (.long cr), .second, .val (.long lo), .second] [(.double r_7)]))
        refine own_on (fun t_ k_ => XS.lload X7.here hx rfl (hb hby at_230) rfl k_) ?_
        show OwnGo p e below s _ _ _ (T7.setTop (mkF m 232 #[.val (.int x1), .val (.int x2), .val (.int x3), .val (.int x4), .val (.int x5), .val (.int x6), .val (.int r_1), .val (.int r_2), .val (.int r_3), .val (.int r_4), .val (.int r_5), .val (.int r_6), .val (.double r_7), .second, .val (.long px), .second, .val (.long py), .second, .val (.long dx), .second, .val (.long dy), .second, .val (.long qx), .second, .val (.long qy), .second, .val (.long ss), .second, .val (.long dt), .second, .val (.long cr), .second, .val (.long lo), .second] [(.long lo), (.double r_7)]))
        refine own_on (fun t_ k_ => XS.l2dS X7.here hx rfl (hb hby at_232) rfl egg k_) ?_
        show OwnGo p e below s _ _ _ (T7.setTop (mkF m 233 #[.val (.int x1), .val (.int x2), .val (.int x3), .val (.int x4), .val (.int x5), .val (.int x6), .val (.int r_1), .val (.int r_2), .val (.int r_3), .val (.int r_4), .val (.int r_5), .val (.int r_6), .val (.double r_7), .second, .val (.long px), .second, .val (.long py), .second, .val (.long dx), .second, .val (.long dy), .second, .val (.long qx), .second, .val (.long qy), .second, .val (.long ss), .second, .val (.long dt), .second, .val (.long cr), .second, .val (.long lo), .second] [(.double gg), (.double r_7)]))
        refine own_on (X7.ldc2DoubleC hx hown (mvT hZ (w8 hw)) (g := (mkF m 233 #[.val (.int x1), .val (.int x2), .val (.int x3), .val (.int x4), .val (.int x5), .val (.int x6), .val (.int r_1), .val (.int r_2), .val (.int r_3), .val (.int r_4), .val (.int r_5), .val (.int r_6), .val (.double r_7), .second, .val (.long px), .second, .val (.long py), .second, .val (.long dx), .second, .val (.long dy), .second, .val (.long qx), .second, .val (.long qy), .second, .val (.long ss), .second, .val (.long dt), .second, .val (.long cr), .second, .val (.long lo), .second] [(.double gg), (.double r_7)])) rfl (hb hby at_233)) ?_
        show OwnGo p e below s _ _ _ (T7.setTop (mkF m 236 #[.val (.int x1), .val (.int x2), .val (.int x3), .val (.int x4), .val (.int x5), .val (.int x6), .val (.int r_1), .val (.int r_2), .val (.int r_3), .val (.int r_4), .val (.int r_5), .val (.int r_6), .val (.double r_7), .second, .val (.long px), .second, .val (.long py), .second, .val (.long dx), .second, .val (.long dy), .second, .val (.long qx), .second, .val (.long qy), .second, .val (.long ss), .second, .val (.long dt), .second, .val (.long cr), .second, .val (.long lo), .second] [(.double (4598175219545276416 : UInt64)), (.double gg), (.double r_7)]))
        refine own_on (fun t_ k_ => XS.dsubS X7.here hx rfl (hb hby at_236) rfl (own_nn emm fm) emm k_) ?_
        show OwnGo p e below s _ _ _ (T7.setTop (mkF m 237 #[.val (.int x1), .val (.int x2), .val (.int x3), .val (.int x4), .val (.int x5), .val (.int x6), .val (.int r_1), .val (.int r_2), .val (.int r_3), .val (.int r_4), .val (.int r_5), .val (.int r_6), .val (.double r_7), .second, .val (.long px), .second, .val (.long py), .second, .val (.long dx), .second, .val (.long dy), .second, .val (.long qx), .second, .val (.long qy), .second, .val (.long ss), .second, .val (.long dt), .second, .val (.long cr), .second, .val (.long lo), .second] [(.double mm), (.double r_7)]))
        refine own_on (fun t_ k_ => XS.dcmpS (v := (1 : Int32)) X7.here hx rfl (hb hby at_237) rfl (own_cv1 cm _) k_) ?_
        show OwnGo p e below s _ _ _ (T7.setTop (mkF m 238 #[.val (.int x1), .val (.int x2), .val (.int x3), .val (.int x4), .val (.int x5), .val (.int x6), .val (.int r_1), .val (.int r_2), .val (.int r_3), .val (.int r_4), .val (.int r_5), .val (.int r_6), .val (.double r_7), .second, .val (.long px), .second, .val (.long py), .second, .val (.long dx), .second, .val (.long dy), .second, .val (.long qx), .second, .val (.long qy), .second, .val (.long ss), .second, .val (.long dt), .second, .val (.long cr), .second, .val (.long lo), .second] [(.int (1 : Int32))]))
        refine own_on (fun t_ k_ => XS.ifNo X7.here hx rfl (hb hby at_238) rfl ((if0 _ _).trans (tlt (by decide : (0 : Int32) < (1 : Int32))).2.2.2) k_) ?_
        show OwnGo p e below s _ _ _ (T7.setTop (mkF m 241 #[.val (.int x1), .val (.int x2), .val (.int x3), .val (.int x4), .val (.int x5), .val (.int x6), .val (.int r_1), .val (.int r_2), .val (.int r_3), .val (.int r_4), .val (.int r_5), .val (.int r_6), .val (.double r_7), .second, .val (.long px), .second, .val (.long py), .second, .val (.long dx), .second, .val (.long dy), .second, .val (.long qx), .second, .val (.long qy), .second, .val (.long ss), .second, .val (.long dt), .second, .val (.long cr), .second, .val (.long lo), .second] []))
        refine own_on (fun t_ k_ => XS.dload X7.here hx rfl (hb hby at_241) rfl k_) ?_
        show OwnGo p e below s _ _ _ (T7.setTop (mkF m 243 #[.val (.int x1), .val (.int x2), .val (.int x3), .val (.int x4), .val (.int x5), .val (.int x6), .val (.int r_1), .val (.int r_2), .val (.int r_3), .val (.int r_4), .val (.int r_5), .val (.int r_6), .val (.double r_7), .second, .val (.long px), .second, .val (.long py), .second, .val (.long dx), .second, .val (.long dy), .second, .val (.long qx), .second, .val (.long qy), .second, .val (.long ss), .second, .val (.long dt), .second, .val (.long cr), .second, .val (.long lo), .second] [(.double r_7)]))
        refine own_on (fun t_ k_ => XS.lload X7.here hx rfl (hb hby at_243) rfl k_) ?_
        show OwnGo p e below s _ _ _ (T7.setTop (mkF m 245 #[.val (.int x1), .val (.int x2), .val (.int x3), .val (.int x4), .val (.int x5), .val (.int x6), .val (.int r_1), .val (.int r_2), .val (.int r_3), .val (.int r_4), .val (.int r_5), .val (.int r_6), .val (.double r_7), .second, .val (.long px), .second, .val (.long py), .second, .val (.long dx), .second, .val (.long dy), .second, .val (.long qx), .second, .val (.long qy), .second, .val (.long ss), .second, .val (.long dt), .second, .val (.long cr), .second, .val (.long lo), .second] [(.long lo), (.double r_7)]))
        refine own_on (fun t_ k_ => XS.l2dS X7.here hx rfl (hb hby at_245) rfl egg k_) ?_
        show OwnGo p e below s _ _ _ (T7.setTop (mkF m 246 #[.val (.int x1), .val (.int x2), .val (.int x3), .val (.int x4), .val (.int x5), .val (.int x6), .val (.int r_1), .val (.int r_2), .val (.int r_3), .val (.int r_4), .val (.int r_5), .val (.int r_6), .val (.double r_7), .second, .val (.long px), .second, .val (.long py), .second, .val (.long dx), .second, .val (.long dy), .second, .val (.long qx), .second, .val (.long qy), .second, .val (.long ss), .second, .val (.long dt), .second, .val (.long cr), .second, .val (.long lo), .second] [(.double gg), (.double r_7)]))
        refine own_on (X7.ldc2DoubleC hx hown (mvT hZ (w9 hw)) (g := (mkF m 246 #[.val (.int x1), .val (.int x2), .val (.int x3), .val (.int x4), .val (.int x5), .val (.int x6), .val (.int r_1), .val (.int r_2), .val (.int r_3), .val (.int r_4), .val (.int r_5), .val (.int r_6), .val (.double r_7), .second, .val (.long px), .second, .val (.long py), .second, .val (.long dx), .second, .val (.long dy), .second, .val (.long qx), .second, .val (.long qy), .second, .val (.long ss), .second, .val (.long dt), .second, .val (.long cr), .second, .val (.long lo), .second] [(.double gg), (.double r_7)])) rfl (hb hby at_246)) ?_
        show OwnGo p e below s _ _ _ (T7.setTop (mkF m 249 #[.val (.int x1), .val (.int x2), .val (.int x3), .val (.int x4), .val (.int x5), .val (.int x6), .val (.int r_1), .val (.int r_2), .val (.int r_3), .val (.int r_4), .val (.int r_5), .val (.int r_6), .val (.double r_7), .second, .val (.long px), .second, .val (.long py), .second, .val (.long dx), .second, .val (.long dy), .second, .val (.long qx), .second, .val (.long qy), .second, .val (.long ss), .second, .val (.long dt), .second, .val (.long cr), .second, .val (.long lo), .second] [(.double (4608308318706860032 : UInt64)), (.double gg), (.double r_7)]))
        refine own_on (fun t_ k_ => XS.daddS X7.here hx rfl (hb hby at_249) rfl (own_nn enn fn) enn k_) ?_
        show OwnGo p e below s _ _ _ (T7.setTop (mkF m 250 #[.val (.int x1), .val (.int x2), .val (.int x3), .val (.int x4), .val (.int x5), .val (.int x6), .val (.int r_1), .val (.int r_2), .val (.int r_3), .val (.int r_4), .val (.int r_5), .val (.int r_6), .val (.double r_7), .second, .val (.long px), .second, .val (.long py), .second, .val (.long dx), .second, .val (.long dy), .second, .val (.long qx), .second, .val (.long qy), .second, .val (.long ss), .second, .val (.long dt), .second, .val (.long cr), .second, .val (.long lo), .second] [(.double nn), (.double r_7)]))
        refine own_on (fun t_ k_ => XS.dcmpS (v := (-1 : Int32)) X7.here hx rfl (hb hby at_250) rfl (own_cvm cn _) k_) ?_
        show OwnGo p e below s _ _ _ (T7.setTop (mkF m 251 #[.val (.int x1), .val (.int x2), .val (.int x3), .val (.int x4), .val (.int x5), .val (.int x6), .val (.int r_1), .val (.int r_2), .val (.int r_3), .val (.int r_4), .val (.int r_5), .val (.int r_6), .val (.double r_7), .second, .val (.long px), .second, .val (.long py), .second, .val (.long dx), .second, .val (.long dy), .second, .val (.long qx), .second, .val (.long qy), .second, .val (.long ss), .second, .val (.long dt), .second, .val (.long cr), .second, .val (.long lo), .second] [(.int (-1 : Int32))]))
        refine own_on (fun t_ k_ => XS.ifNo X7.here hx rfl (hb hby at_251) rfl ((if0 _ _).trans (tlt (by decide : (-1 : Int32) < (0 : Int32))).2.1) k_) ?_
        show OwnGo p e below s _ _ _ (T7.setTop (mkF m 254 #[.val (.int x1), .val (.int x2), .val (.int x3), .val (.int x4), .val (.int x5), .val (.int x6), .val (.int r_1), .val (.int r_2), .val (.int r_3), .val (.int r_4), .val (.int r_5), .val (.int r_6), .val (.double r_7), .second, .val (.long px), .second, .val (.long py), .second, .val (.long dx), .second, .val (.long dy), .second, .val (.long qx), .second, .val (.long qy), .second, .val (.long ss), .second, .val (.long dt), .second, .val (.long cr), .second, .val (.long lo), .second] []))
        refine own_on (fun t_ k_ => XS.iconst X7.here hx rfl (hb hby at_254) k_) ?_
        show OwnGo p e below s _ _ _ (T7.setTop (mkF m 255 #[.val (.int x1), .val (.int x2), .val (.int x3), .val (.int x4), .val (.int x5), .val (.int x6), .val (.int r_1), .val (.int r_2), .val (.int r_3), .val (.int r_4), .val (.int r_5), .val (.int r_6), .val (.double r_7), .second, .val (.long px), .second, .val (.long py), .second, .val (.long dx), .second, .val (.long dy), .second, .val (.long qx), .second, .val (.long qy), .second, .val (.long ss), .second, .val (.long dt), .second, .val (.long cr), .second, .val (.long lo), .second] [(.int (1 : Int32))]))
        refine own_on (fun t_ k_ => XS.goto X7.here hx rfl (pc0 := 255) (pc' := 259) rfl (hb hby at_255) (by decide) (by decide) k_) ?_
        show OwnGo p e below s _ _ _ (T7.setTop (mkF m 259 #[.val (.int x1), .val (.int x2), .val (.int x3), .val (.int x4), .val (.int x5), .val (.int x6), .val (.int r_1), .val (.int r_2), .val (.int r_3), .val (.int r_4), .val (.int r_5), .val (.int r_6), .val (.double r_7), .second, .val (.long px), .second, .val (.long py), .second, .val (.long dx), .second, .val (.long dy), .second, .val (.long qx), .second, .val (.long qy), .second, .val (.long ss), .second, .val (.long dt), .second, .val (.long cr), .second, .val (.long lo), .second] [(.int (1 : Int32))]))
        exact own_retN X7 hx hlk (t := .boolean) Bd.returns (by simp) (hb hby at_259) e7 ⟨rfl, N7, rfl⟩ (by decide) (by decide)
      · refine own_on (fun t_ k_ => XS.dcmpS (v := (1 : Int32)) X7.here hx rfl (hb hby at_224) rfl (own_vgt r1 own_d0 (own_pos2 r2 hz) _) k_) ?_
        show OwnGo p e below s _ _ _ (T7.setTop (mkF m 225 #[.val (.int x1), .val (.int x2), .val (.int x3), .val (.int x4), .val (.int x5), .val (.int x6), .val (.int r_1), .val (.int r_2), .val (.int r_3), .val (.int r_4), .val (.int r_5), .val (.int r_6), .val (.double r_7), .second, .val (.long px), .second, .val (.long py), .second, .val (.long dx), .second, .val (.long dy), .second, .val (.long qx), .second, .val (.long qy), .second, .val (.long ss), .second, .val (.long dt), .second, .val (.long cr), .second, .val (.long lo), .second] [(.int (1 : Int32))]))
        refine own_on (fun t_ k_ => XS.ifNo X7.here hx rfl (hb hby at_225) rfl ((if0 _ _).trans (flt (by decide : ¬ ((1 : Int32) < (0 : Int32)))).1) k_) ?_
        show OwnGo p e below s _ _ _ (T7.setTop (mkF m 228 #[.val (.int x1), .val (.int x2), .val (.int x3), .val (.int x4), .val (.int x5), .val (.int x6), .val (.int r_1), .val (.int r_2), .val (.int r_3), .val (.int r_4), .val (.int r_5), .val (.int r_6), .val (.double r_7), .second, .val (.long px), .second, .val (.long py), .second, .val (.long dx), .second, .val (.long dy), .second, .val (.long qx), .second, .val (.long qy), .second, .val (.long ss), .second, .val (.long dt), .second, .val (.long cr), .second, .val (.long lo), .second] []))
        refine own_on (fun t_ k_ => XS.dload X7.here hx rfl (hb hby at_228) rfl k_) ?_
        show OwnGo p e below s _ _ _ (T7.setTop (mkF m 230 #[.val (.int x1), .val (.int x2), .val (.int x3), .val (.int x4), .val (.int x5), .val (.int x6), .val (.int r_1), .val (.int r_2), .val (.int r_3), .val (.int r_4), .val (.int r_5), .val (.int r_6), .val (.double r_7), .second, .val (.long px), .second, .val (.long py), .second, .val (.long dx), .second, .val (.long dy), .second, .val (.long qx), .second, .val (.long qy), .second, .val (.long ss), .second, .val (.long dt), .second, .val (.long cr), .second, .val (.long lo), .second] [(.double r_7)]))
        refine own_on (fun t_ k_ => XS.lload X7.here hx rfl (hb hby at_230) rfl k_) ?_
        show OwnGo p e below s _ _ _ (T7.setTop (mkF m 232 #[.val (.int x1), .val (.int x2), .val (.int x3), .val (.int x4), .val (.int x5), .val (.int x6), .val (.int r_1), .val (.int r_2), .val (.int r_3), .val (.int r_4), .val (.int r_5), .val (.int r_6), .val (.double r_7), .second, .val (.long px), .second, .val (.long py), .second, .val (.long dx), .second, .val (.long dy), .second, .val (.long qx), .second, .val (.long qy), .second, .val (.long ss), .second, .val (.long dt), .second, .val (.long cr), .second, .val (.long lo), .second] [(.long lo), (.double r_7)]))
        refine own_on (fun t_ k_ => XS.l2dS X7.here hx rfl (hb hby at_232) rfl egg k_) ?_
        show OwnGo p e below s _ _ _ (T7.setTop (mkF m 233 #[.val (.int x1), .val (.int x2), .val (.int x3), .val (.int x4), .val (.int x5), .val (.int x6), .val (.int r_1), .val (.int r_2), .val (.int r_3), .val (.int r_4), .val (.int r_5), .val (.int r_6), .val (.double r_7), .second, .val (.long px), .second, .val (.long py), .second, .val (.long dx), .second, .val (.long dy), .second, .val (.long qx), .second, .val (.long qy), .second, .val (.long ss), .second, .val (.long dt), .second, .val (.long cr), .second, .val (.long lo), .second] [(.double gg), (.double r_7)]))
        refine own_on (X7.ldc2DoubleC hx hown (mvT hZ (w8 hw)) (g := (mkF m 233 #[.val (.int x1), .val (.int x2), .val (.int x3), .val (.int x4), .val (.int x5), .val (.int x6), .val (.int r_1), .val (.int r_2), .val (.int r_3), .val (.int r_4), .val (.int r_5), .val (.int r_6), .val (.double r_7), .second, .val (.long px), .second, .val (.long py), .second, .val (.long dx), .second, .val (.long dy), .second, .val (.long qx), .second, .val (.long qy), .second, .val (.long ss), .second, .val (.long dt), .second, .val (.long cr), .second, .val (.long lo), .second] [(.double gg), (.double r_7)])) rfl (hb hby at_233)) ?_
        show OwnGo p e below s _ _ _ (T7.setTop (mkF m 236 #[.val (.int x1), .val (.int x2), .val (.int x3), .val (.int x4), .val (.int x5), .val (.int x6), .val (.int r_1), .val (.int r_2), .val (.int r_3), .val (.int r_4), .val (.int r_5), .val (.int r_6), .val (.double r_7), .second, .val (.long px), .second, .val (.long py), .second, .val (.long dx), .second, .val (.long dy), .second, .val (.long qx), .second, .val (.long qy), .second, .val (.long ss), .second, .val (.long dt), .second, .val (.long cr), .second, .val (.long lo), .second] [(.double (4598175219545276416 : UInt64)), (.double gg), (.double r_7)]))
        refine own_on (fun t_ k_ => XS.dsubS X7.here hx rfl (hb hby at_236) rfl (own_nn emm fm) emm k_) ?_
        show OwnGo p e below s _ _ _ (T7.setTop (mkF m 237 #[.val (.int x1), .val (.int x2), .val (.int x3), .val (.int x4), .val (.int x5), .val (.int x6), .val (.int r_1), .val (.int r_2), .val (.int r_3), .val (.int r_4), .val (.int r_5), .val (.int r_6), .val (.double r_7), .second, .val (.long px), .second, .val (.long py), .second, .val (.long dx), .second, .val (.long dy), .second, .val (.long qx), .second, .val (.long qy), .second, .val (.long ss), .second, .val (.long dt), .second, .val (.long cr), .second, .val (.long lo), .second] [(.double mm), (.double r_7)]))
        refine own_on (fun t_ k_ => XS.dcmpS (v := (1 : Int32)) X7.here hx rfl (hb hby at_237) rfl (own_cv1 cm _) k_) ?_
        show OwnGo p e below s _ _ _ (T7.setTop (mkF m 238 #[.val (.int x1), .val (.int x2), .val (.int x3), .val (.int x4), .val (.int x5), .val (.int x6), .val (.int r_1), .val (.int r_2), .val (.int r_3), .val (.int r_4), .val (.int r_5), .val (.int r_6), .val (.double r_7), .second, .val (.long px), .second, .val (.long py), .second, .val (.long dx), .second, .val (.long dy), .second, .val (.long qx), .second, .val (.long qy), .second, .val (.long ss), .second, .val (.long dt), .second, .val (.long cr), .second, .val (.long lo), .second] [(.int (1 : Int32))]))
        refine own_on (fun t_ k_ => XS.ifNo X7.here hx rfl (hb hby at_238) rfl ((if0 _ _).trans (tlt (by decide : (0 : Int32) < (1 : Int32))).2.2.2) k_) ?_
        show OwnGo p e below s _ _ _ (T7.setTop (mkF m 241 #[.val (.int x1), .val (.int x2), .val (.int x3), .val (.int x4), .val (.int x5), .val (.int x6), .val (.int r_1), .val (.int r_2), .val (.int r_3), .val (.int r_4), .val (.int r_5), .val (.int r_6), .val (.double r_7), .second, .val (.long px), .second, .val (.long py), .second, .val (.long dx), .second, .val (.long dy), .second, .val (.long qx), .second, .val (.long qy), .second, .val (.long ss), .second, .val (.long dt), .second, .val (.long cr), .second, .val (.long lo), .second] []))
        refine own_on (fun t_ k_ => XS.dload X7.here hx rfl (hb hby at_241) rfl k_) ?_
        show OwnGo p e below s _ _ _ (T7.setTop (mkF m 243 #[.val (.int x1), .val (.int x2), .val (.int x3), .val (.int x4), .val (.int x5), .val (.int x6), .val (.int r_1), .val (.int r_2), .val (.int r_3), .val (.int r_4), .val (.int r_5), .val (.int r_6), .val (.double r_7), .second, .val (.long px), .second, .val (.long py), .second, .val (.long dx), .second, .val (.long dy), .second, .val (.long qx), .second, .val (.long qy), .second, .val (.long ss), .second, .val (.long dt), .second, .val (.long cr), .second, .val (.long lo), .second] [(.double r_7)]))
        refine own_on (fun t_ k_ => XS.lload X7.here hx rfl (hb hby at_243) rfl k_) ?_
        show OwnGo p e below s _ _ _ (T7.setTop (mkF m 245 #[.val (.int x1), .val (.int x2), .val (.int x3), .val (.int x4), .val (.int x5), .val (.int x6), .val (.int r_1), .val (.int r_2), .val (.int r_3), .val (.int r_4), .val (.int r_5), .val (.int r_6), .val (.double r_7), .second, .val (.long px), .second, .val (.long py), .second, .val (.long dx), .second, .val (.long dy), .second, .val (.long qx), .second, .val (.long qy), .second, .val (.long ss), .second, .val (.long dt), .second, .val (.long cr), .second, .val (.long lo), .second] [(.long lo), (.double r_7)]))
        refine own_on (fun t_ k_ => XS.l2dS X7.here hx rfl (hb hby at_245) rfl egg k_) ?_
        show OwnGo p e below s _ _ _ (T7.setTop (mkF m 246 #[.val (.int x1), .val (.int x2), .val (.int x3), .val (.int x4), .val (.int x5), .val (.int x6), .val (.int r_1), .val (.int r_2), .val (.int r_3), .val (.int r_4), .val (.int r_5), .val (.int r_6), .val (.double r_7), .second, .val (.long px), .second, .val (.long py), .second, .val (.long dx), .second, .val (.long dy), .second, .val (.long qx), .second, .val (.long qy), .second, .val (.long ss), .second, .val (.long dt), .second, .val (.long cr), .second, .val (.long lo), .second] [(.double gg), (.double r_7)]))
        refine own_on (X7.ldc2DoubleC hx hown (mvT hZ (w9 hw)) (g := (mkF m 246 #[.val (.int x1), .val (.int x2), .val (.int x3), .val (.int x4), .val (.int x5), .val (.int x6), .val (.int r_1), .val (.int r_2), .val (.int r_3), .val (.int r_4), .val (.int r_5), .val (.int r_6), .val (.double r_7), .second, .val (.long px), .second, .val (.long py), .second, .val (.long dx), .second, .val (.long dy), .second, .val (.long qx), .second, .val (.long qy), .second, .val (.long ss), .second, .val (.long dt), .second, .val (.long cr), .second, .val (.long lo), .second] [(.double gg), (.double r_7)])) rfl (hb hby at_246)) ?_
        show OwnGo p e below s _ _ _ (T7.setTop (mkF m 249 #[.val (.int x1), .val (.int x2), .val (.int x3), .val (.int x4), .val (.int x5), .val (.int x6), .val (.int r_1), .val (.int r_2), .val (.int r_3), .val (.int r_4), .val (.int r_5), .val (.int r_6), .val (.double r_7), .second, .val (.long px), .second, .val (.long py), .second, .val (.long dx), .second, .val (.long dy), .second, .val (.long qx), .second, .val (.long qy), .second, .val (.long ss), .second, .val (.long dt), .second, .val (.long cr), .second, .val (.long lo), .second] [(.double (4608308318706860032 : UInt64)), (.double gg), (.double r_7)]))
        refine own_on (fun t_ k_ => XS.daddS X7.here hx rfl (hb hby at_249) rfl (own_nn enn fn) enn k_) ?_
        show OwnGo p e below s _ _ _ (T7.setTop (mkF m 250 #[.val (.int x1), .val (.int x2), .val (.int x3), .val (.int x4), .val (.int x5), .val (.int x6), .val (.int r_1), .val (.int r_2), .val (.int r_3), .val (.int r_4), .val (.int r_5), .val (.int r_6), .val (.double r_7), .second, .val (.long px), .second, .val (.long py), .second, .val (.long dx), .second, .val (.long dy), .second, .val (.long qx), .second, .val (.long qy), .second, .val (.long ss), .second, .val (.long dt), .second, .val (.long cr), .second, .val (.long lo), .second] [(.double nn), (.double r_7)]))
        refine own_on (fun t_ k_ => XS.dcmpS (v := (-1 : Int32)) X7.here hx rfl (hb hby at_250) rfl (own_cvm cn _) k_) ?_
        show OwnGo p e below s _ _ _ (T7.setTop (mkF m 251 #[.val (.int x1), .val (.int x2), .val (.int x3), .val (.int x4), .val (.int x5), .val (.int x6), .val (.int r_1), .val (.int r_2), .val (.int r_3), .val (.int r_4), .val (.int r_5), .val (.int r_6), .val (.double r_7), .second, .val (.long px), .second, .val (.long py), .second, .val (.long dx), .second, .val (.long dy), .second, .val (.long qx), .second, .val (.long qy), .second, .val (.long ss), .second, .val (.long dt), .second, .val (.long cr), .second, .val (.long lo), .second] [(.int (-1 : Int32))]))
        refine own_on (fun t_ k_ => XS.ifNo X7.here hx rfl (hb hby at_251) rfl ((if0 _ _).trans (tlt (by decide : (-1 : Int32) < (0 : Int32))).2.1) k_) ?_
        show OwnGo p e below s _ _ _ (T7.setTop (mkF m 254 #[.val (.int x1), .val (.int x2), .val (.int x3), .val (.int x4), .val (.int x5), .val (.int x6), .val (.int r_1), .val (.int r_2), .val (.int r_3), .val (.int r_4), .val (.int r_5), .val (.int r_6), .val (.double r_7), .second, .val (.long px), .second, .val (.long py), .second, .val (.long dx), .second, .val (.long dy), .second, .val (.long qx), .second, .val (.long qy), .second, .val (.long ss), .second, .val (.long dt), .second, .val (.long cr), .second, .val (.long lo), .second] []))
        refine own_on (fun t_ k_ => XS.iconst X7.here hx rfl (hb hby at_254) k_) ?_
        show OwnGo p e below s _ _ _ (T7.setTop (mkF m 255 #[.val (.int x1), .val (.int x2), .val (.int x3), .val (.int x4), .val (.int x5), .val (.int x6), .val (.int r_1), .val (.int r_2), .val (.int r_3), .val (.int r_4), .val (.int r_5), .val (.int r_6), .val (.double r_7), .second, .val (.long px), .second, .val (.long py), .second, .val (.long dx), .second, .val (.long dy), .second, .val (.long qx), .second, .val (.long qy), .second, .val (.long ss), .second, .val (.long dt), .second, .val (.long cr), .second, .val (.long lo), .second] [(.int (1 : Int32))]))
        refine own_on (fun t_ k_ => XS.goto X7.here hx rfl (pc0 := 255) (pc' := 259) rfl (hb hby at_255) (by decide) (by decide) k_) ?_
        show OwnGo p e below s _ _ _ (T7.setTop (mkF m 259 #[.val (.int x1), .val (.int x2), .val (.int x3), .val (.int x4), .val (.int x5), .val (.int x6), .val (.int r_1), .val (.int r_2), .val (.int r_3), .val (.int r_4), .val (.int r_5), .val (.int r_6), .val (.double r_7), .second, .val (.long px), .second, .val (.long py), .second, .val (.long dx), .second, .val (.long dy), .second, .val (.long qx), .second, .val (.long qy), .second, .val (.long ss), .second, .val (.long dt), .second, .val (.long cr), .second, .val (.long lo), .second] [(.int (1 : Int32))]))
        exact own_retN X7 hx hlk (t := .boolean) Bd.returns (by simp) (hb hby at_259) e7 ⟨rfl, N7, rfl⟩ (by decide) (by decide)
set_option maxRecDepth 65536 in
set_option maxHeartbeats 40000000 in
theorem comes_1 {Post : Tables → Env → Array Value → State → Outcome → State → Prop} (hpost : ∀ tb e args s v u, (limb_1_1.after args s (.returned v) u = true ∧ limb_1_2.after args s (.returned v) u = true ∧ True) → FrameEnd s (.returned v) u (Jvm.fieldLocs frame_1_writes args s ++ Jvm.arrayLocs frame_1_arrays args s ++ Jvm.staticLocs frame_1_statics s) 0 0 → Post tb e args s (.returned v) u) :
    ArmFor flags0 classFile x code maxLocals ret World_1 tables_1 room_1 Calls_1 rest_1 Pre_1 Post := by
  intro l hfl _ _ p e ha hc hk s m args below hf hA hF happ hP
  obtain ⟨hcalls, hrest, hpre⟩ := hP
  obtain ⟨-, -, -, hnamed, -, -, -, hat⟩ := (Spec.applies_iff hf).mp happ
  obtain ⟨hg, hn⟩ := and_e (Cond.before_iff.mp (show (Jvm.Cond.and given_1 narrow_1).before args s = true from hpre))
  obtain ⟨gc, gr0⟩ := and_e hg
  obtain ⟨gi0, gr1⟩ := and_e gr0
  obtain ⟨gi1, gr2⟩ := and_e gr1
  obtain ⟨gi2, gr3⟩ := and_e gr2
  obtain ⟨gi3, gr4⟩ := and_e gr3
  obtain ⟨gi4, gr5⟩ := and_e gr4
  have gi5 := gr5
  obtain ⟨w_0, w_1, w_2, w_3, w_4, w_5, rfl⟩ : ∃ w_0 w_1 w_2 w_3 w_4 w_5 : Value, args = #[w_0, w_1, w_2, w_3, w_4, w_5] := by
    have hs : args.size = 6 := by simpa [Cond.value, given_1] using gc
    obtain ⟨L⟩ := args
    match L, hs with
    | [w_0, w_1, w_2, w_3, w_4, w_5], _ => exact ⟨w_0, w_1, w_2, w_3, w_4, w_5, rfl⟩
  have hw := fun d (hd : d ∈ tables_1) => atoms_spec (ws := Jvm.Cond.code x code maxLocals ret :: tables_1) hat d (List.mem_cons_of_mem _ hd)
  have hfit : Fit s := fun {y c} hc i hi => by
    obtain ⟨ha, rfl⟩ := Array.getElem?_eq_some_iff.mp hc
    have q := List.all_eq_true.mp ((Array.all_eq_true_iff_forall_mem.mp hF) _ (Array.getElem_mem ha)) i (List.mem_range.mpr hi)
    simpa [Array.getElem?_eq_getElem hi] using q
  obtain ⟨i0, ei0⟩ := is_v gi0
  obtain rfl : w_0 = (.int i0) := Option.some.inj ei0
  obtain ⟨i1, ei1⟩ := is_v gi1
  obtain rfl : w_1 = (.int i1) := Option.some.inj ei1
  obtain ⟨i2, ei2⟩ := is_v gi2
  obtain rfl : w_2 = (.int i2) := Option.some.inj ei2
  obtain ⟨i3, ei3⟩ := is_v gi3
  obtain rfl : w_3 = (.int i3) := Option.some.inj ei3
  obtain ⟨i4, ei4⟩ := is_v gi4
  obtain rfl : w_4 = (.int i4) := Option.some.inj ei4
  obtain ⟨i5, ei5⟩ := is_v gi5
  obtain rfl : w_5 = (.int i5) := Option.some.inj ei5
  obtain ⟨n, o, h1, h2, h3, _, L, rfl, ⟨rfl, N, _⟩, hq⟩ := rm0 l s _ hw tables_1 i0 i1 i2 i3 i4 i5  s.heap s.heap.size (Nat.le_refl _)  p e ha hc hk s m _ below hf ((Spec.applies_iff_loose hf).mp happ).1 ⟨rfl, State.Warmed39.refl s, rfl⟩ trivial
  refine ⟨n, _, h1, h2, h3, hpost _ _ _ _ _ _ ⟨Cond.after_iff.mpr rfl, Cond.after_iff.mpr (eq_i res_at (Term.int_eval (1)) rfl), trivial⟩ ⟨hq.1, hq.2.1, (hq.2.2.sift fun y hy => Or.inr (N y hy)).mono (by decide) (by decide)⟩⟩
theorem main_1_1 : Claimed_1_1 := comes_1 fun _ _ _ _ _ _ h hF => ⟨h.1, hF⟩
theorem main_1_2 : Claimed_1_2 := comes_1 fun _ _ _ _ _ _ h hF => ⟨h.2.1, hF⟩
end Jvm.Pilot.@@N@@
namespace Jvm.Pilot.@@N@@
open Jvm Jvm.ClassFile Sem Op Lib Jvm.Free Jvm.Stand Jvm.Pilot.@@N@@.Jvm.D
/-! MADE BY PROGRAM (witnessworld.py) out of the Statement's table words and the real class files: 9 classes; the members and pool entries that the words name. The judged class is class 1, her method 2. -/
namespace start1
open Jvm.ClassFile
def u (s : String) : CpInfo := .utf8 (stringToUtf16 s)
/-- a pool by its gaps: so many unusable entries, then the entry; so many at the end -/
def gap : Nat → List CpInfo → List CpInfo
  | 0, r => r
  | n + 1, r => .unusable :: gap n r
def poolList (es : List (Nat × CpInfo)) (last : Nat) : List CpInfo := es.foldr (fun e r => gap e.1 (e.2 :: r)) (gap last [])
def pool (es : List (Nat × CpInfo)) (last : Nat) : Array CpInfo := ⟨poolList es last⟩
def fileOf (pool : Array CpInfo) (this : Nat) (attrs : Array Attribute := #[]) (ms : Array MethodInfo := #[]) (fl : Nat := 33) (sup : Nat := 0) (ifs : Array Nat := #[]) (fds : Array FieldInfo := #[]) : ClassFile where
  minorVersion := 0
  majorVersion := 65
  constantPool := pool
  accessFlags := fl
  thisClass := this
  superClass := sup
  interfaces := ifs
  fields := fds
  methods := ms
  attributes := attrs
def plain (name : String) (sup : Option ClassId) : Class where
  name := name
  kind := .ordinary
  loader := none
  accessFlags := 33
  super := sup
  interfaces := #[]
  cf := none
  fields := #[]
  methods := #[]
  instanceTypes := #[]
  staticTypes := #[]
  resolved := #[]
  callSites := []
  init := .initialized
  statics := none
  mirror := none

def pool0 : Array CpInfo := pool [(5, u "<init>"), (0, u "()V"), (1, .class_ 10), (1, u "java/lang/Object")] 113

def k0m0 : Method := { name := "<init>", desc := "()V", sig := { parameters := [], returnType := none }, accessFlags := 1, code := none }
/-- java/lang/Object -/
def k0 : Class := { plain "java/lang/Object" none with
  accessFlags := 33
  interfaces := #[]
  cf := some (fileOf pool0 8 #[] #[{ accessFlags := 1, nameIndex := 5, descriptorIndex := 6, attributes := #[] }] 33 0 #[] #[])
  fields := #[]
  methods := #[k0m0]
  instanceTypes := #[]
  staticTypes := #[]
  resolved := Array.replicate 124 none
  statics := none }

def pool1 : Array CpInfo := pool [(2, .class_ 4), (1, u "java/lang/Object"), (0, u "<init>"), (0, u "()V"), (0, .methodref 8 9), (0, .class_ 10), (0, .nameAndType 11 12), (0, u "org/tempochart/observer/PointGridSquaredDistancePinLaw"), (0, u "coord"), (0, u "(I)I"), (0, .methodref 14 15), (0, .class_ 16), (0, .nameAndType 17 18), (0, u "org/tempochart/observer/PointGrid"), (0, u "squaredDistance"), (0, u "(IIIIII)D"), (0, .double 4598175219545276416), (1, .double 4608308318706860032), (3, u "law"), (0, u "(IIIIII)Z")] 3

def k1m0 : Method := { name := "<init>", desc := "()V", sig := { parameters := [], returnType := none }, accessFlags := 2, code := none }
def k1c1 : Code := { maxStack := 2, maxLocals := 1, code := method_2_code, exceptionTable := #[], attributes := #[] }
def k1m1 : Method := { name := "coord", desc := "(I)I", sig := { parameters := [.int], returnType := some .int }, accessFlags := 10, code := some k1c1 }
def k1c2 : Code := { maxStack := 8, maxLocals := 34, code := code, exceptionTable := #[], attributes := #[] }
def k1m2 : Method := { name := "law", desc := "(IIIIII)Z", sig := { parameters := [.int, .int, .int, .int, .int, .int], returnType := some .boolean }, accessFlags := 9, code := some k1c2 }
/-- org/tempochart/observer/PointGridSquaredDistancePinLaw -/
def k1 : Class := { plain "org/tempochart/observer/PointGridSquaredDistancePinLaw" (some 0) with
  accessFlags := 49
  interfaces := #[]
  cf := some (fileOf pool1 8 #[] #[{ accessFlags := 2, nameIndex := 5, descriptorIndex := 6, attributes := #[] }, { accessFlags := 10, nameIndex := 11, descriptorIndex := 12, attributes := #[] }, { accessFlags := 9, nameIndex := 25, descriptorIndex := 26, attributes := #[] }] 49 2 #[] #[])
  fields := #[]
  methods := #[k1m0, k1m1, k1m2]
  instanceTypes := #[]
  staticTypes := #[]
  resolved := Array.replicate 30 none
  statics := none }

def pool2 : Array CpInfo := pool [(2, .class_ 4), (1, u "java/lang/Object"), (0, u "<init>"), (0, u "()V"), (1, .class_ 10), (1, u "org/tempochart/observer/PointGrid"), (0, u "xs"), (0, u "[I"), (2, u "ys"), (2, u "next"), (2, u "first"), (2, u "shift"), (0, u "I"), (2, u "count"), (17, u "left"), (0, u "J"), (2, u "top"), (2, u "columns"), (2, u "rows"), (2, u "cut"), (22, u "found"), (2, u "squaredDistance"), (0, u "(IIIIII)D"), (60, u "NARROWEST")] 22

def k2m0 : Method := { name := "<init>", desc := "()V", sig := { parameters := [], returnType := none }, accessFlags := 0, code := none }
def k2c1 : Code := { maxStack := 6, maxLocals := 22, code := prog_233_method_9_code, exceptionTable := #[], attributes := #[] }
def k2m1 : Method := { name := "squaredDistance", desc := "(IIIIII)D", sig := { parameters := [.int, .int, .int, .int, .int, .int], returnType := some .double }, accessFlags := 8, code := some k2c1 }
/-- org/tempochart/observer/PointGrid -/
def k2 : Class := { plain "org/tempochart/observer/PointGrid" (some 0) with
  accessFlags := 48
  interfaces := #[]
  cf := some (fileOf pool2 8 #[] #[{ accessFlags := 0, nameIndex := 5, descriptorIndex := 6, attributes := #[] }, { accessFlags := 8, nameIndex := 85, descriptorIndex := 86, attributes := #[] }] 48 2 #[] #[{ accessFlags := 26, nameIndex := 147, descriptorIndex := 25, attributes := #[] }, { accessFlags := 2, nameIndex := 11, descriptorIndex := 12, attributes := #[] }, { accessFlags := 2, nameIndex := 15, descriptorIndex := 12, attributes := #[] }, { accessFlags := 2, nameIndex := 18, descriptorIndex := 12, attributes := #[] }, { accessFlags := 2, nameIndex := 28, descriptorIndex := 25, attributes := #[] }, { accessFlags := 2, nameIndex := 21, descriptorIndex := 12, attributes := #[] }, { accessFlags := 2, nameIndex := 46, descriptorIndex := 47, attributes := #[] }, { accessFlags := 2, nameIndex := 50, descriptorIndex := 47, attributes := #[] }, { accessFlags := 2, nameIndex := 24, descriptorIndex := 25, attributes := #[] }, { accessFlags := 2, nameIndex := 53, descriptorIndex := 25, attributes := #[] }, { accessFlags := 2, nameIndex := 56, descriptorIndex := 25, attributes := #[] }, { accessFlags := 2, nameIndex := 59, descriptorIndex := 25, attributes := #[] }, { accessFlags := 2, nameIndex := 82, descriptorIndex := 25, attributes := #[] }])
  fields := #[{ name := "NARROWEST", type := .int, accessFlags := 26, slot := 0, constantValue := 0 }, { name := "xs", type := (.array .int), accessFlags := 2, slot := 0, constantValue := 0 }, { name := "ys", type := (.array .int), accessFlags := 2, slot := 1, constantValue := 0 }, { name := "next", type := (.array .int), accessFlags := 2, slot := 2, constantValue := 0 }, { name := "count", type := .int, accessFlags := 2, slot := 3, constantValue := 0 }, { name := "first", type := (.array .int), accessFlags := 2, slot := 4, constantValue := 0 }, { name := "left", type := .long, accessFlags := 2, slot := 5, constantValue := 0 }, { name := "top", type := .long, accessFlags := 2, slot := 6, constantValue := 0 }, { name := "shift", type := .int, accessFlags := 2, slot := 7, constantValue := 0 }, { name := "columns", type := .int, accessFlags := 2, slot := 8, constantValue := 0 }, { name := "rows", type := .int, accessFlags := 2, slot := 9, constantValue := 0 }, { name := "cut", type := .int, accessFlags := 2, slot := 10, constantValue := 0 }, { name := "found", type := .int, accessFlags := 2, slot := 11, constantValue := 0 }]
  methods := #[k2m0, k2m1]
  instanceTypes := #[(.array .int), (.array .int), (.array .int), .int, (.array .int), .long, .long, .int, .int, .int, .int, .int]
  staticTypes := #[.int]
  resolved := Array.replicate 170 none
  statics := none }

def pool3 : Array CpInfo := pool [(1, u "java/lang/Cloneable"), (0, .class_ 1), (0, u "java/lang/Object"), (0, .class_ 3)] 3

/-- java/lang/Cloneable -/
def k3 : Class := { plain "java/lang/Cloneable" (some 0) with
  accessFlags := 1537
  interfaces := #[]
  cf := some (fileOf pool3 2 #[] #[] 1537 4 #[] #[])
  fields := #[]
  methods := #[]
  instanceTypes := #[]
  staticTypes := #[]
  resolved := Array.replicate 8 none
  statics := none }

def pool4 : Array CpInfo := pool [(1, u "java/io/Serializable"), (0, .class_ 1), (0, u "java/lang/Object"), (0, .class_ 3)] 3

/-- java/io/Serializable -/
def k4 : Class := { plain "java/io/Serializable" (some 0) with
  accessFlags := 1537
  interfaces := #[]
  cf := some (fileOf pool4 2 #[] #[] 1537 4 #[] #[])
  fields := #[]
  methods := #[]
  instanceTypes := #[]
  staticTypes := #[]
  resolved := Array.replicate 8 none
  statics := none }

/-- the primitive byte -/
def k5 : Class := { plain "byte" none with kind := .primitive 'B', accessFlags := 0x411 }
/-- [B -/
def k6 : Class := { plain "[B" (some 0) with kind := .array 5 .byte, interfaces := #[3, 4], accessFlags := 1041 }

/-- the primitive int -/
def k7 : Class := { plain "int" none with kind := .primitive 'I', accessFlags := 0x411 }
/-- [I -/
def k8 : Class := { plain "[I" (some 0) with kind := .array 7 .int, interfaces := #[3, 4], accessFlags := 1041 }

def heap : Heap := #[]
def classes : Array Class := #[k0, k1, k2, k3, k4, k5, k6, k7, k8]
def interned : List (Array UInt16 × Addr) := []
def slotsUsed : Nat := 0
def theMethod : MethodId := ⟨1, 2⟩
def args0 : Array Value := #[.int 3, .int 4, .int 1, .int 2, .int 10, .int 12]
def aboutOver (below : List Frame) : State where
  vm := { classes := classes, interned := interned.toArray }
  heap := heap
  slotsUsed := slotsUsed
  threads := #[{ frames := .invoking theMethod args0 :: below }]
def below0 : List Frame := [.native { method := ⟨0, 0⟩, args := #[] }]
def about1 : State := aboutOver below0
def p0 : Program := .bare "" "" ""
def e0 : Env := launch0.env 0 0 0
theorem w_frames : about1.frames = Frame.invoking theMethod args0 :: below0 := rfl
set_option maxRecDepth 65536 in
theorem w_args : argsFit about1.vm theMethod args0 = true := by decide +kernel
set_option maxRecDepth 65536 in
theorem w_heap : heapFits about1 = true := by decide +kernel
set_option maxRecDepth 65536 in
theorem w_runnable : about1.curStatus? = some .runnable := by decide +kernel
set_option maxRecDepth 65536 in
theorem w_alone : about1.alone = true := by decide +kernel
set_option maxRecDepth 65536 in
theorem w_named : about1.methodNamed? x = some theMethod := by decide +kernel
set_option maxRecDepth 65536 in
theorem w_hears : about1.hears theMethod below0 = true := by decide +kernel
set_option maxRecDepth 65536 in
theorem w_ripe : about1.ripe theMethod args0 below0 = true := by decide +kernel
theorem w_running : about1.status = .running := rfl
set_option maxRecDepth 65536 in
theorem w_room : about1.hasRoom e0.platform room_1 = true :=
  launch0.hasRoom_least _ room_1 (by decide +kernel) (by decide +kernel) (by decide +kernel) (by decide +kernel) (by decide +kernel) (by decide +kernel)
theorem allAtoms_all (ts : List Jvm.Cond) (a : Array Jvm.Value) (st : Jvm.State) : (allAtoms ts).before a st = ts.all (fun c => c.before a st) := by
  induction ts with
  | nil => rfl
  | cons c t ih =>
    show (Jvm.Cond.and c (allAtoms t)).before a st = _
    rw [Jvm.Cond.before_and, ih, List.all_cons]
def words1 : List Jvm.Cond := Jvm.Cond.code x code maxLocals ret :: tables_1
/-- a 'code' word, met by the world's own term for the bytes: nothing is compared byte by byte -/
theorem code_word {y : MethodName} {bytes : ByteArray} {mx : Nat} {rt : Option FieldType} {a : Array Value} {s : State} {m : MethodId} {meth : Method} {c : Code} (h1 : s.methodNamed? y = some m) (h2 : s.vm.method? m = some meth) (h3 : meth.code = some c) (h4 : c.code = bytes)
    (h5 : (c.maxLocals == mx && c.exceptionTable.isEmpty && decide (c.maxStack ≤ mostOperands) && decide (meth.sig.returnType = rt) && !meth.locks && decide (parseMethodDescriptor y.desc = some meth.sig)) = true) : (Jvm.Cond.code y bytes mx rt).before a s = true := by
  simp only [Bool.and_eq_true, beq_iff_eq, Bool.not_eq_true', decide_eq_true_eq] at h5
  obtain ⟨⟨⟨⟨⟨g1, g2⟩, g3⟩, g4⟩, g5⟩, g6⟩ := h5
  simp [Cond.before, Cond.holds, Cond.value, h1, h2, h3, h4, g1, g2, g3, g4, g5, g6]
def isCode : Jvm.Cond → Bool
  | .code _ _ _ _ => true
  | _ => false
theorem all_split {L : List Jvm.Cond} {P : Jvm.Cond → Bool} (h1 : L.all (fun c => isCode c || P c) = true) (h2 : ∀ c ∈ L.filter isCode, P c = true) : L.all P = true := by
  refine List.all_eq_true.mpr fun c hc => ?_
  have h := List.all_eq_true.mp h1 c hc
  rcases Bool.eq_false_or_eq_true (isCode c) with hi | hi
  · exact h2 c (List.mem_filter.mpr ⟨hc, hi⟩)
  · simpa [hi] using h
set_option maxRecDepth 65536 in
theorem w_c0 : (Jvm.Cond.code x code maxLocals ret).before args0 about1 = true := code_word (m := ⟨1, 2⟩) (meth := k1m2) (c := k1c2) (by decide +kernel) rfl rfl rfl (by decide +kernel)
set_option maxRecDepth 65536 in
theorem w_c1 : (Jvm.Cond.code ({ cls := "org/tempochart/observer/PointGridSquaredDistancePinLaw", name := "coord", desc := "(I)I" } : Jvm.MethodName) method_2_code (1 : Nat) (Option.some Jvm.ClassFile.FieldType.int)).before args0 about1 = true := code_word (m := ⟨1, 1⟩) (meth := k1m1) (c := k1c1) (by decide +kernel) rfl rfl rfl (by decide +kernel)
set_option maxRecDepth 65536 in
theorem w_c2 : (Jvm.Cond.code ({ cls := "org/tempochart/observer/PointGrid", name := "squaredDistance", desc := "(IIIIII)D" } : Jvm.MethodName) prog_233_method_9_code (22 : Nat) (Option.some Jvm.ClassFile.FieldType.double)).before args0 about1 = true := code_word (m := ⟨2, 1⟩) (meth := k2m1) (c := k2c1) (by decide +kernel) rfl rfl rfl (by decide +kernel)
def codes1 : List Jvm.Cond := [Jvm.Cond.code x code maxLocals ret, Jvm.Cond.code ({ cls := "org/tempochart/observer/PointGridSquaredDistancePinLaw", name := "coord", desc := "(I)I" } : Jvm.MethodName) method_2_code (1 : Nat) (Option.some Jvm.ClassFile.FieldType.int), Jvm.Cond.code ({ cls := "org/tempochart/observer/PointGrid", name := "squaredDistance", desc := "(IIIIII)D" } : Jvm.MethodName) prog_233_method_9_code (22 : Nat) (Option.some Jvm.ClassFile.FieldType.double)]
set_option maxRecDepth 65536 in
theorem codes_eq : words1.filter isCode = codes1 := rfl
theorem w_codes : ∀ c ∈ words1.filter isCode, c.before args0 about1 = true := by
  rw [codes_eq]
  intro c hc
  simp only [codes1, List.mem_cons, List.not_mem_nil, or_false] at hc
  rcases hc with rfl | rfl | rfl
  · exact w_c0
  · exact w_c1
  · exact w_c2
set_option maxRecDepth 65536 in
theorem w_t1 : words1.all (fun c => isCode c || c.before args0 about1) = true := by decide +kernel
theorem w_tables : (allAtoms (Jvm.Cond.code x code maxLocals ret :: tables_1)).before args0 about1 = true := by
  rw [allAtoms_all]
  show words1.all (fun c => c.before args0 about1) = true
  refine all_split ?_ w_codes
  rw [w_t1]
set_option maxRecDepth 65536 in
theorem w_case : (Jvm.Cond.and given_1 narrow_1).before args0 about1 = true := by decide +kernel
theorem w_applies : (headSpec (Jvm.Cond.code x code maxLocals ret :: tables_1) room_1).applies x e0.platform about1 = true :=
  (Spec.applies_iff w_frames).mpr ⟨w_running, w_runnable, w_alone, w_named, w_hears, w_ripe, w_room, w_tables⟩
theorem atStart : AtStart classFile x code maxLocals ret World_1 tables_1 room_1 Calls_1 rest_1 Pre_1 launch0 p0 e0 about1 theMethod args0 below0 :=
  ⟨lists_1, trivial, launch0.admits_env _ _ _, launch0.least_env, fairChoices_fair.cas, fairChoices_fair.clock, w_frames, w_args, w_heap, w_applies, trivial, trivial, w_case⟩
end start1
theorem witness_1 : WitnessClaimed_1 := ⟨start1.p0, start1.e0, start1.about1, start1.theMethod, start1.args0, start1.below0, start1.atStart⟩
end Jvm.Pilot.@@N@@
