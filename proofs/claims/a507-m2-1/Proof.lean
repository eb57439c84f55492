import JvmDerived
import JvmDerived.Pilot.@@N@@Statement
import JvmDerived.Pilot.@@N@@Code
set_option linter.unusedVariables false
set_option linter.unusedSimpArgs false
namespace Jvm.OwnFl
open Jvm.FP.Core
/-- the value of a double that is no NaN, counted in units of the least double -/
def own_z (x : UInt64) : Int := zval b64 (val64 x)
/-- how many of those units make 1 -/
def own_pw (n : Nat) : Nat := if h : n = 0 then 1 else 2 * own_pw (n - 1)
termination_by n
decreasing_by omega
theorem own_pw_eq (n : Nat) : own_pw n = 2 ^ n := by
  induction n with
  | zero => rw [own_pw]; rfl
  | succ k ih => rw [own_pw, dif_neg (Nat.succ_ne_zero k), Nat.add_sub_cancel, ih, Nat.pow_succ, Nat.mul_comm]
def own_U : Nat := own_pw 1074
theorem own_U_eq : own_U = 2 ^ 1074 := own_pw_eq 1074
theorem own_U_pos : (0 : Int) < (own_U : Int) := Int.natCast_pos.mpr (own_U_eq ▸ Nat.two_pow_pos 1074)
/-- a whole number of units that is a finite double -/
def own_rep (z : Int) : Prop := ∃ (c : Int) (j : Nat), z = c * ((2 ^ j : Nat) : Int) ∧ c.natAbs < 2 ^ 53 ∧ j ≤ 2045
theorem own_signed (c : Int) : signed (decide (c < 0)) c.natAbs = c := by
  unfold signed
  by_cases h : c < 0
  · simp only [h, decide_true, if_true]; omega
  · simp only [h, decide_false, Bool.false_eq_true, if_false]; omega
theorem own_datum {z : Int} (h : own_rep z) : ∃ s c q, Jvm.FP.Core.fits b64 (.fin s c q) ∧ zval b64 (.fin s c q) = z := by
  obtain ⟨c, j, rfl, hc, hj⟩ := h
  have hm : b64.qmax = 971 := by decide
  have hq := qmin_b64
  obtain ⟨c', q', h1, h2⟩ := round_exact good_b64 (decide (c < 0)) (c := c.natAbs) (q := b64.qmin + (j : Int)) hc (by omega) (by omega)
  refine ⟨_, c', q', h1 ▸ round_fits good_b64 _, ?_⟩
  show signed (decide (c < 0)) (inUnits c' q' b64.qmin) = _
  rw [h2]
  unfold inUnits
  rw [show (b64.qmin + (j : Int) - b64.qmin).toNat = j by omega, signed_mul, own_signed]
theorem own_top {z : Int} (h : own_rep z) : z.natAbs < 2 ^ 2098 := by
  obtain ⟨c, j, rfl, hc, hj⟩ := h
  rw [Int.natAbs_mul, Int.natAbs_natCast]
  have h1 : 2 ^ j ≤ 2 ^ 2045 := Nat.pow_le_pow_right (by decide) hj
  have h2 : c.natAbs * 2 ^ j ≤ c.natAbs * 2 ^ 2045 := Nat.mul_le_mul_left _ h1
  have h3 : c.natAbs * 2 ^ 2045 < 2 ^ 53 * 2 ^ 2045 := Nat.mul_lt_mul_of_pos_right hc (Nat.two_pow_pos _)
  have h4 : (2 : Nat) ^ 53 * 2 ^ 2045 = 2 ^ 2098 := (Nat.pow_add 2 53 2045).symm
  rw [h4] at h3
  exact Nat.lt_of_le_of_lt h2 h3
theorem own_fin_of {x : UInt64} {z : Int} (hn : val64 x ≠ .nan) (hz : own_z x = z) (h : own_rep z) : DFin x := by
  cases hv : val64 x with
  | nan => exact absurd hv hn
  | inf s =>
    exfalso
    have e : own_z x = signed s (b64.tails * 2 ^ (b64.exps - 2)) := by unfold own_z; rw [hv]; rfl
    have l := own_top h
    rw [← hz, e, natAbs_signed] at l
    have t : b64.tails * 2 ^ (b64.exps - 2) = 2 ^ 2098 := by
      rw [tails_b64, show b64.exps - 2 = 2046 by decide]
      exact (Nat.pow_add 2 52 2046).symm
    rw [t] at l
    exact Nat.lt_irrefl _ l
  | fin s c q => exact ⟨s, c, q, hv⟩
theorem own_round_nn (s : Bool) (c : Nat) (q : Int) : round b64 (.fin s c q) ≠ .nan := roundRatio_ne_nan b64 s c 1 q
theorem own_add {x y : UInt64} (hx : DFin x) (hy : DFin y) (h : own_rep (own_z x + own_z y)) : DFin (dadd x y) ∧ own_z (dadd x y) = own_z x + own_z y := by
  obtain ⟨s, c, q, fV, zV⟩ := own_datum h
  have e : own_z (dadd x y) = own_z x + own_z y := by
    show zval b64 (val64 (dadd x y)) = _
    rw [val64_dadd]
    have h1 := sum_le good_b64 hx hy (val64_fits x) (val64_fits y) fV (fun q => Datum.noConfusion q) (Int.le_of_eq zV.symm)
    have h2 := sum_ge good_b64 hx hy (val64_fits x) (val64_fits y) fV (fun q => Datum.noConfusion q) (Int.le_of_eq zV)
    rw [zV] at h1 h2
    exact Int.le_antisymm h1 h2
  refine ⟨own_fin_of ?_ e h, e⟩
  rw [val64_dadd]
  obtain ⟨s1, c1, q1, e1⟩ := hx
  obtain ⟨s2, c2, q2, e2⟩ := hy
  rw [e1, e2]
  exact own_round_nn _ _ _
theorem own_neg {x : UInt64} (hx : DFin x) : DFin (dneg x) ∧ own_z (dneg x) = - own_z x := by
  obtain ⟨s, c, q, e⟩ := hx
  constructor
  · exact ⟨!s, c, q, by rw [val64_dneg, e]; rfl⟩
  · show zval b64 (val64 (dneg x)) = _
    rw [val64_dneg, zval_negate]; rfl
theorem own_sub {x y : UInt64} (hx : DFin x) (hy : DFin y) (h : own_rep (own_z x - own_z y)) : DFin (dsub x y) ∧ own_z (dsub x y) = own_z x - own_z y := by
  obtain ⟨n1, n2⟩ := own_neg hy
  have e : own_z x + own_z (dneg y) = own_z x - own_z y := by rw [n2]; omega
  have k := own_add hx n1 (e ▸ h)
  rw [dsub_eq]
  exact ⟨k.1, k.2.trans e⟩
theorem own_signed_mul2 (s t : Bool) (a b : Nat) : signed (s != t) (a * b) = signed s a * signed t b := by
  cases s <;> cases t <;> simp [signed, Int.natCast_mul, Int.neg_mul, Int.mul_neg]
theorem own_mul {x y : UInt64} {z : Int} (hx : DFin x) (hy : DFin y) (h : own_rep z) (e : own_z x * own_z y = z * (own_U : Int)) : DFin (dmul x y) ∧ own_z (dmul x y) = z := by
  obtain ⟨s, c, q, e1⟩ := hx
  obtain ⟨t, d, r, e2⟩ := hy
  obtain ⟨s', c', q', fV, zV⟩ := own_datum h
  have f1 : Jvm.FP.Core.fits b64 (.fin s c q) := e1 ▸ val64_fits x
  have f2 : Jvm.FP.Core.fits b64 (.fin t d r) := e2 ▸ val64_fits y
  obtain ⟨p1, p2, p3⟩ := product_units f1 f2
  have u1 : own_z x = signed s (zmag b64 (.fin s c q)) := by unfold own_z; rw [e1]; rfl
  have u2 : own_z y = signed t (zmag b64 (.fin t d r)) := by unfold own_z; rw [e2]; rfl
  have hs : signed (s != t) (inUnits (c * d) (q + r) (2 * b64.qmin)) = zval b64 (.fin s' c' q') * ((2 ^ (b64.qmin - 2 * b64.qmin).toNat : Nat) : Int) := by
    rw [p3, own_signed_mul2, ← u1, ← u2, e, zV, show (b64.qmin - 2 * b64.qmin).toNat = 1074 by rw [qmin_b64]; rfl, own_U_eq]
  have hq := qmin_b64
  have k : own_z (dmul x y) = z := by
    show zval b64 (val64 (dmul x y)) = _
    rw [val64_dmul, e1, e2, p1]
    have h1 := zval_round_le good_b64 (s := (s != t)) (c := c * d) (q := q + r) (e0 := 2 * b64.qmin) fV (fun q => Datum.noConfusion q) (by omega) p2 (Int.le_of_eq hs)
    have h2 := zval_round_ge good_b64 (s := (s != t)) (c := c * d) (q := q + r) (e0 := 2 * b64.qmin) fV (fun q => Datum.noConfusion q) (by omega) p2 (Int.le_of_eq hs.symm)
    rw [zV] at h1 h2
    exact Int.le_antisymm h1 h2
  refine ⟨own_fin_of ?_ k h, k⟩
  rw [val64_dmul, e1, e2, p1]
  exact own_round_nn _ _ _
theorem own_nonneg {s : Bool} {m : Nat} (h : 0 ≤ signed s m) : signed s m = (m : Int) := by
  cases s
  · rfl
  · simp only [signed, if_true] at h ⊢; omega
theorem own_pos_sign {s : Bool} {m : Nat} (h : 0 < signed s m) : s = false := by
  cases s
  · rfl
  · simp only [signed, if_true] at h; omega
/-- the quotient of two finite doubles, the divisor not nought -/
theorem own_quot {x y : UInt64} {s t : Bool} {c d : Nat} {q r : Int} (e1 : val64 x = .fin s c q) (e2 : val64 y = .fin t d r) (hd : d ≠ 0) : val64 (ddiv x y) = roundRatio b64 (s != t) c d (q - r) := by
  rw [val64_ddiv, e1, e2]
  unfold quotient
  exact if_neg hd
theorem own_zmag_ne {t : Bool} {d : Nat} {r : Int} (h : signed t (zmag b64 (.fin t d r)) ≠ 0) : d ≠ 0 := by
  intro e
  apply h
  subst e
  show signed t (inUnits 0 r b64.qmin) = 0
  unfold inUnits
  rw [Nat.zero_mul]
  exact signed_zero t
theorem own_pow_shift {A B u v u' v' : Nat} (h : A * 2 ^ u = B * 2 ^ v) (he : u + v' = u' + v) : A * 2 ^ u' = B * 2 ^ v' := by
  refine Nat.eq_of_mul_eq_mul_right (Nat.two_pow_pos v) ?_
  calc A * 2 ^ u' * 2 ^ v = A * 2 ^ (u' + v) := by rw [Nat.mul_assoc, ← Nat.pow_add]
    _ = A * 2 ^ (u + v') := by rw [he]
    _ = A * 2 ^ u * 2 ^ v' := by rw [Nat.mul_assoc, ← Nat.pow_add]
    _ = B * 2 ^ v * 2 ^ v' := by rw [h]
    _ = B * 2 ^ v' * 2 ^ v := by ac_rfl
theorem own_zv {x : UInt64} {s : Bool} {c : Nat} {q : Int} (e : val64 x = .fin s c q) : own_z x = signed s (c * 2 ^ (q - b64.qmin).toNat) := by
  unfold own_z; rw [e]; rfl
theorem own_c0 {s : Bool} {c k : Nat} (h : signed s (c * 2 ^ k) = 0) : c = 0 := by
  rw [signed_eq_zero] at h
  rcases Nat.mul_eq_zero.mp h with h | h
  · exact h
  · have := Nat.two_pow_pos k; omega
theorem own_rr0 (s : Bool) (B : Nat) (e : Int) : zval b64 (roundRatio b64 s 0 B e) = 0 := by
  unfold roundRatio
  rw [if_pos rfl]
  show signed s (inUnits 0 b64.qmin b64.qmin) = 0
  unfold inUnits
  rw [Nat.zero_mul]
  exact signed_zero s
/-- two quotients of one value, none negative -/
theorem own_div_congr {x y x' y' : UInt64} (hx : DFin x) (hy : DFin y) (hx' : DFin x') (hy' : DFin y') (px : 0 ≤ own_z x) (py : 0 < own_z y) (px' : 0 ≤ own_z x') (py' : 0 < own_z y')
    (h : own_z x * own_z y' = own_z x' * own_z y) : own_z (ddiv x y) = own_z (ddiv x' y') := by
  obtain ⟨s, c, q, e1⟩ := hx
  obtain ⟨t, d, r, e2⟩ := hy
  obtain ⟨s', c', q', e1'⟩ := hx'
  obtain ⟨t', d', r', e2'⟩ := hy'
  have f1 : b64.qmin ≤ q := (e1 ▸ val64_fits x : Jvm.FP.Core.fits b64 (.fin s c q)).2.1
  have f2 : b64.qmin ≤ r := (e2 ▸ val64_fits y : Jvm.FP.Core.fits b64 (.fin t d r)).2.1
  have f1' : b64.qmin ≤ q' := (e1' ▸ val64_fits x' : Jvm.FP.Core.fits b64 (.fin s' c' q')).2.1
  have f2' : b64.qmin ≤ r' := (e2' ▸ val64_fits y' : Jvm.FP.Core.fits b64 (.fin t' d' r')).2.1
  rw [own_zv e2] at py h
  rw [own_zv e2'] at py' h
  rw [own_zv e1] at px h
  rw [own_zv e1'] at px' h
  have ht := own_pos_sign py
  have ht' := own_pos_sign py'
  have d0 : d ≠ 0 := fun z => by rw [z, Nat.zero_mul, signed_zero] at py; exact Int.lt_irrefl _ py
  have d0' : d' ≠ 0 := fun z => by rw [z, Nat.zero_mul, signed_zero] at py'; exact Int.lt_irrefl _ py'
  show zval b64 (val64 (ddiv x y)) = zval b64 (val64 (ddiv x' y'))
  rw [own_quot e1 e2 d0, own_quot e1' e2' d0']
  rw [own_nonneg px, own_nonneg px', own_nonneg (Int.le_of_lt py), own_nonneg (Int.le_of_lt py'), ← Int.natCast_mul, ← Int.natCast_mul] at h
  have hN : c * 2 ^ (q - b64.qmin).toNat * (d' * 2 ^ (r' - b64.qmin).toNat) = c' * 2 ^ (q' - b64.qmin).toNat * (d * 2 ^ (r - b64.qmin).toNat) := Int.natCast_inj.mp h
  have hP : c * d' * 2 ^ ((q - b64.qmin).toNat + (r' - b64.qmin).toNat) = c' * d * 2 ^ ((q' - b64.qmin).toNat + (r - b64.qmin).toNat) := by
    rw [Nat.pow_add, Nat.pow_add]
    calc c * d' * (2 ^ (q - b64.qmin).toNat * 2 ^ (r' - b64.qmin).toNat) = c * 2 ^ (q - b64.qmin).toNat * (d' * 2 ^ (r' - b64.qmin).toNat) := by ac_rfl
      _ = c' * 2 ^ (q' - b64.qmin).toNat * (d * 2 ^ (r - b64.qmin).toNat) := hN
      _ = c' * d * (2 ^ (q' - b64.qmin).toNat * 2 ^ (r - b64.qmin).toNat) := by ac_rfl
  have hC : c * d' * 2 ^ ((q - r) - (q' - r')).toNat = c' * d * 2 ^ ((q' - r') - (q - r)).toNat := own_pow_shift hP (by omega)
  by_cases hz : c = 0
  · have hz' : c' = 0 := by
      rw [hz, Nat.zero_mul, Nat.zero_mul] at hC
      rcases Nat.mul_eq_zero.mp hC.symm with k | k
      · rcases Nat.mul_eq_zero.mp k with k | k
        · exact k
        · exact absurd k d0
      · have := Nat.two_pow_pos ((q' - r') - (q - r)).toNat; omega
    rw [hz, hz', own_rr0, own_rr0]
  · have hz' : c' ≠ 0 := by
      intro k
      rw [k, Nat.zero_mul, Nat.zero_mul] at hC
      rcases Nat.mul_eq_zero.mp hC with k | k
      · rcases Nat.mul_eq_zero.mp k with k | k
        · exact hz k
        · exact d0' k
      · have := Nat.two_pow_pos ((q - r) - (q' - r')).toNat; omega
    have sx : s = false := by
      cases s
      · rfl
      · exfalso
        have := Nat.mul_pos (Nat.pos_of_ne_zero hz) (Nat.two_pow_pos (q - b64.qmin).toNat)
        simp only [signed, if_true] at px
        omega
    have sx' : s' = false := by
      cases s'
      · rfl
      · exfalso
        have := Nat.mul_pos (Nat.pos_of_ne_zero hz') (Nat.two_pow_pos (q' - b64.qmin).toNat)
        simp only [signed, if_true] at px'
        omega
    rw [ht, ht', sx, sx', roundRatio_congr (Nat.pos_of_ne_zero d0) (Nat.pos_of_ne_zero d0') hC]
/-- an exact quotient, nothing negative -/
theorem own_div {x y : UInt64} {z : Int} (hx : DFin x) (hy : DFin y) (px : 0 ≤ own_z x) (py : 0 < own_z y) (h : own_rep z) (e : own_z x * (own_U : Int) = z * own_z y) : DFin (ddiv x y) ∧ own_z (ddiv x y) = z := by
  obtain ⟨s, c, q, e1⟩ := hx
  obtain ⟨t, d, r, e2⟩ := hy
  obtain ⟨sv, cv, qv, fV, zV⟩ := own_datum h
  have f1 := (e1 ▸ val64_fits x : Jvm.FP.Core.fits b64 (.fin s c q))
  have f2 := (e2 ▸ val64_fits y : Jvm.FP.Core.fits b64 (.fin t d r))
  have pz : 0 ≤ z := by
    refine Int.not_lt.mp fun k => ?_
    have h1 : z * own_z y < 0 := Int.mul_neg_of_neg_of_pos k py
    have h2 : 0 ≤ own_z x * (own_U : Int) := Int.mul_nonneg px (Int.le_of_lt own_U_pos)
    omega
  have hq := qmin_b64
  have hm : b64.qmax = 971 := by decide
  have q1 := f1.2.1
  have q2 := f1.2.2.1
  have q3 := f2.2.1
  have q4 := f2.2.2.1
  have zM : (zmag b64 (.fin sv cv qv) : Int) = z := by
    have k : 0 ≤ signed sv (zmag b64 (.fin sv cv qv)) := by rw [show signed sv (zmag b64 (.fin sv cv qv)) = z from zV]; exact pz
    rw [← own_nonneg k]; exact zV
  rw [own_zv e1] at px e
  rw [own_zv e2] at py e
  have ht := own_pos_sign py
  have d0 : d ≠ 0 := fun k => by rw [k, Nat.zero_mul, signed_zero] at py; exact Int.lt_irrefl _ py
  rw [own_nonneg px, own_nonneg (Int.le_of_lt py), ← zM, ← Int.natCast_mul, ← Int.natCast_mul] at e
  have hN : c * 2 ^ (q - b64.qmin).toNat * own_U = zmag b64 (.fin sv cv qv) * (d * 2 ^ (r - b64.qmin).toNat) := Int.natCast_inj.mp e
  generalize hmv : zmag b64 (.fin sv cv qv) = mv at hN zM
  have hP : c * 2 ^ ((q - b64.qmin).toNat + 1074) = mv * d * 2 ^ (r - b64.qmin).toNat := by
    rw [Nat.pow_add, ← Nat.mul_assoc, ← own_U_eq, hN, Nat.mul_assoc]
  have hC : c * 2 ^ (q - r - (-4000)).toNat = mv * d * 2 ^ (b64.qmin - (-4000)).toNat := own_pow_shift hP (by omega)
  have hE : inUnits c (q - r) (-4000) = zmag b64 (.fin sv cv qv) * 2 ^ (b64.qmin - (-4000)).toNat * d := by
    unfold inUnits
    rw [hC, hmv]; exact Nat.mul_right_comm _ _ _
  have l1 := zmag_roundRatio_le good_b64 (s := (s != t)) (A := c) (B := d) (e := q - r) (e0 := -4000) (V := .fin sv cv qv) (Nat.pos_of_ne_zero d0) fV (fun q => Datum.noConfusion q) (by omega) (by omega) (Nat.le_of_eq hE)
  have l2 := zmag_roundRatio_ge good_b64 (s := (s != t)) (A := c) (B := d) (e := q - r) (e0 := -4000) (V := .fin sv cv qv) (Nat.pos_of_ne_zero d0) fV (by omega) (by omega) (Nat.le_of_eq hE.symm)
  have l3 : zmag b64 (roundRatio b64 (s != t) c d (q - r)) = mv := by rw [← hmv]; exact Nat.le_antisymm l1 l2
  have k : own_z (ddiv x y) = z := by
    show zval b64 (val64 (ddiv x y)) = z
    rw [own_quot e1 e2 d0]
    by_cases hz : c = 0
    · rw [hz, own_rr0]
      rw [hz, Nat.zero_mul] at hP
      have : mv * d * 2 ^ (r - b64.qmin).toNat = 0 := hP.symm
      rcases Nat.mul_eq_zero.mp this with k | k
      · rcases Nat.mul_eq_zero.mp k with k | k
        · rw [← zM, k]; rfl
        · exact absurd k d0
      · have := Nat.two_pow_pos (r - b64.qmin).toNat; omega
    · have sx : s = false := by
        cases s
        · rfl
        · exfalso
          have := Nat.mul_pos (Nat.pos_of_ne_zero hz) (Nat.two_pow_pos (q - b64.qmin).toNat)
          simp only [signed, if_true] at px
          omega
      unfold zval
      rw [sgn_roundRatio, l3, ht, sx, ← zM]
      rfl
  refine ⟨own_fin_of ?_ k h, k⟩
  rw [own_quot e1 e2 d0]
  exact roundRatio_ne_nan _ _ _ _ _
theorem own_pow_shift_le {A B u v u' v' : Nat} (h : A * 2 ^ u ≤ B * 2 ^ v) (he : u + v' = u' + v) : A * 2 ^ u' ≤ B * 2 ^ v' := by
  refine Nat.le_of_mul_le_mul_right ?_ (Nat.two_pow_pos v)
  calc A * 2 ^ u' * 2 ^ v = A * 2 ^ (u' + v) := by rw [Nat.mul_assoc, ← Nat.pow_add]
    _ = A * 2 ^ (u + v') := by rw [he]
    _ = A * 2 ^ u * 2 ^ v' := by rw [Nat.mul_assoc, ← Nat.pow_add]
    _ ≤ B * 2 ^ v * 2 ^ v' := Nat.mul_le_mul_right _ h
    _ = B * 2 ^ v' * 2 ^ v := by ac_rfl
/-- what a quotient that isn't negative is, by its magnitude -/
theorem own_div_mag {x y : UInt64} (hx : DFin x) (hy : DFin y) (px : 0 ≤ own_z x) (py : 0 < own_z y) : ∃ (c d : Nat) (q r : Int), b64.qmin ≤ q ∧ q ≤ b64.qmax ∧ b64.qmin ≤ r ∧ r ≤ b64.qmax ∧ 0 < d ∧
    own_z x = ((c * 2 ^ (q - b64.qmin).toNat : Nat) : Int) ∧ own_z y = ((d * 2 ^ (r - b64.qmin).toNat : Nat) : Int) ∧ val64 (ddiv x y) ≠ .nan ∧ ∃ s, own_z (ddiv x y) = (zmag b64 (roundRatio b64 s c d (q - r)) : Int) := by
  obtain ⟨s, c, q, e1⟩ := hx
  obtain ⟨t, d, r, e2⟩ := hy
  have f1 := (e1 ▸ val64_fits x : Jvm.FP.Core.fits b64 (.fin s c q))
  have f2 := (e2 ▸ val64_fits y : Jvm.FP.Core.fits b64 (.fin t d r))
  rw [own_zv e1] at px
  rw [own_zv e2] at py
  have d0 : d ≠ 0 := fun k => by rw [k, Nat.zero_mul, signed_zero] at py; exact Int.lt_irrefl _ py
  refine ⟨c, d, q, r, f1.2.1, f1.2.2.1, f2.2.1, f2.2.2.1, Nat.pos_of_ne_zero d0, by rw [own_zv e1, own_nonneg px], by rw [own_zv e2, own_nonneg (Int.le_of_lt py)], ?_, (s != t), ?_⟩
  · rw [own_quot e1 e2 d0]; exact roundRatio_ne_nan _ _ _ _ _
  · show zval b64 (val64 (ddiv x y)) = _
    rw [own_quot e1 e2 d0]
    by_cases hz : c = 0
    · have k : zval b64 (roundRatio b64 (s != t) c d (q - r)) = 0 := by rw [hz]; exact own_rr0 _ _ _
      have k2 := k
      unfold zval at k2
      rw [signed_eq_zero] at k2
      rw [k, k2]; rfl
    · have sx : s = false := by
        cases s
        · rfl
        · exfalso
          have := Nat.mul_pos (Nat.pos_of_ne_zero hz) (Nat.two_pow_pos (q - b64.qmin).toNat)
          simp only [signed, if_true] at px
          omega
      unfold zval
      rw [sgn_roundRatio, own_pos_sign py, sx]
      rfl
theorem own_div_nonneg {x y : UInt64} (hx : DFin x) (hy : DFin y) (px : 0 ≤ own_z x) (py : 0 < own_z y) : val64 (ddiv x y) ≠ .nan ∧ 0 ≤ own_z (ddiv x y) := by
  obtain ⟨c, d, q, r, -, -, -, -, -, -, -, h1, s, h2⟩ := own_div_mag hx hy px py
  exact ⟨h1, by rw [h2]; exact Int.natCast_nonneg _⟩
theorem own_mag_val {w : UInt64} (pw : 0 ≤ own_z w) : own_z w = (zmag b64 (val64 w) : Int) := own_nonneg pw
theorem own_div_le {x y w : UInt64} (hx : DFin x) (hy : DFin y) (px : 0 ≤ own_z x) (py : 0 < own_z y) (hw : val64 w ≠ .nan) (pw : 0 ≤ own_z w) (h : own_z x * (own_U : Int) ≤ own_z w * own_z y) : own_z (ddiv x y) ≤ own_z w := by
  obtain ⟨c, d, q, r, q1, q2, q3, q4, d0, zx, zy, -, s, zq⟩ := own_div_mag hx hy px py
  have hq := qmin_b64
  have hm : b64.qmax = 971 := by decide
  rw [zq, own_mag_val pw]
  rw [zx, zy, own_mag_val pw, ← Int.natCast_mul, ← Int.natCast_mul] at h
  have hN : c * 2 ^ (q - b64.qmin).toNat * own_U ≤ zmag b64 (val64 w) * (d * 2 ^ (r - b64.qmin).toNat) := Int.ofNat_le.mp h
  have hP : c * 2 ^ ((q - b64.qmin).toNat + 1074) ≤ zmag b64 (val64 w) * d * 2 ^ (r - b64.qmin).toNat := by
    rw [Nat.pow_add, ← Nat.mul_assoc, Nat.mul_assoc (zmag b64 (val64 w)), ← own_U_eq]
    exact hN
  have hC : c * 2 ^ (q - r - (-4000)).toNat ≤ zmag b64 (val64 w) * d * 2 ^ (b64.qmin - (-4000)).toNat := own_pow_shift_le hP (by omega)
  refine Int.ofNat_le.mpr (zmag_roundRatio_le good_b64 (e0 := -4000) d0 (val64_fits w) hw (by omega) (by omega) ?_)
  unfold inUnits
  exact Nat.le_trans hC (Nat.le_of_eq (Nat.mul_right_comm _ _ _))
theorem own_div_ge {x y w : UInt64} (hx : DFin x) (hy : DFin y) (px : 0 ≤ own_z x) (py : 0 < own_z y) (pw : 0 ≤ own_z w) (h : own_z w * own_z y ≤ own_z x * (own_U : Int)) : own_z w ≤ own_z (ddiv x y) := by
  obtain ⟨c, d, q, r, q1, q2, q3, q4, d0, zx, zy, -, s, zq⟩ := own_div_mag hx hy px py
  have hq := qmin_b64
  have hm : b64.qmax = 971 := by decide
  rw [zq, own_mag_val pw]
  rw [zx, zy, own_mag_val pw, ← Int.natCast_mul, ← Int.natCast_mul] at h
  have hN : zmag b64 (val64 w) * (d * 2 ^ (r - b64.qmin).toNat) ≤ c * 2 ^ (q - b64.qmin).toNat * own_U := Int.ofNat_le.mp h
  have hP : zmag b64 (val64 w) * d * 2 ^ (r - b64.qmin).toNat ≤ c * 2 ^ ((q - b64.qmin).toNat + 1074) := by
    rw [Nat.pow_add, ← Nat.mul_assoc, Nat.mul_assoc (zmag b64 (val64 w)), ← own_U_eq]
    exact hN
  have hC : zmag b64 (val64 w) * d * 2 ^ (b64.qmin - (-4000)).toNat ≤ c * 2 ^ (q - r - (-4000)).toNat := own_pow_shift_le hP (by omega)
  refine Int.ofNat_le.mpr (zmag_roundRatio_ge good_b64 (e0 := -4000) d0 (val64_fits w) (by omega) (by omega) ?_)
  unfold inUnits
  exact Nat.le_trans (Nat.le_of_eq (Nat.mul_right_comm _ _ _)) hC
/-- x is finite and is n / 2^k -/
def own_is (x : UInt64) (n : Int) (k : Nat) : Prop := DFin x ∧ own_z x * ((2 ^ k : Nat) : Int) = n * (own_U : Int)
theorem own_two_pos (k : Nat) : (0 : Int) < ((2 ^ k : Nat) : Int) := Int.natCast_pos.mpr (Nat.two_pow_pos k)
theorem own_U_split {k : Nat} (hk : k ≤ 1074) : (own_U : Int) = ((2 ^ (1074 - k) : Nat) : Int) * ((2 ^ k : Nat) : Int) := by
  rw [← Int.natCast_mul, ← Nat.pow_add, Nat.sub_add_cancel hk, own_U_eq]
theorem own_rep_of {z n : Int} {k : Nat} (h : z * ((2 ^ k : Nat) : Int) = n * (own_U : Int)) (hn : n.natAbs < 2 ^ 53) (hk : k ≤ 1074) : z = n * ((2 ^ (1074 - k) : Nat) : Int) ∧ own_rep z := by
  have e : z = n * ((2 ^ (1074 - k) : Nat) : Int) := by
    rw [own_U_split hk, ← Int.mul_assoc] at h
    exact Int.eq_of_mul_eq_mul_right (Int.ne_of_gt (own_two_pos k)) h
  exact ⟨e, n, 1074 - k, e, hn, by omega⟩
theorem own_is.nn {x : UInt64} {n : Int} {k : Nat} (h : own_is x n k) : Jvm.Free.Fl.NoNaN64 x := Jvm.Free.Fl.noNaN64_no.mpr ((notNaN_iff x).mpr (by obtain ⟨⟨s, c, q, e⟩, -⟩ := h; rw [e]; exact fun q => Datum.noConfusion q))
theorem own_is.fin {x : UInt64} {n : Int} {k : Nat} (h : own_is x n k) : Jvm.Free.Fl.Fin64 x := Jvm.Free.Fl.fin64_core.mpr h.1
theorem own_is.val {x : UInt64} {n : Int} {k : Nat} (h : own_is x n k) : val64 x ≠ .nan := by obtain ⟨⟨s, c, q, e⟩, -⟩ := h; rw [e]; exact fun q => Datum.noConfusion q
theorem own_is.add {x y : UInt64} {n m : Int} {k : Nat} (hx : own_is x n k) (hy : own_is y m k) (hn : (n + m).natAbs < 2 ^ 53) (hk : k ≤ 1074) : own_is (dadd x y) (n + m) k := by
  have e : (own_z x + own_z y) * ((2 ^ k : Nat) : Int) = (n + m) * (own_U : Int) := by rw [Int.add_mul, Int.add_mul, hx.2, hy.2]
  obtain ⟨a, b⟩ := own_add hx.1 hy.1 (own_rep_of e hn hk).2
  exact ⟨a, by rw [b]; exact e⟩
theorem own_is.sub {x y : UInt64} {n m : Int} {k : Nat} (hx : own_is x n k) (hy : own_is y m k) (hn : (n - m).natAbs < 2 ^ 53) (hk : k ≤ 1074) : own_is (dsub x y) (n - m) k := by
  have e : (own_z x - own_z y) * ((2 ^ k : Nat) : Int) = (n - m) * (own_U : Int) := by rw [Int.sub_mul, Int.sub_mul, hx.2, hy.2]
  obtain ⟨a, b⟩ := own_sub hx.1 hy.1 (own_rep_of e hn hk).2
  exact ⟨a, by rw [b]; exact e⟩
theorem own_is.mul {x y : UInt64} {n m : Int} {k j : Nat} (hx : own_is x n k) (hy : own_is y m j) (hn : (n * m).natAbs < 2 ^ 53) (hk : k + j ≤ 1074) : own_is (dmul x y) (n * m) (k + j) := by
  have hp : ((2 ^ (k + j) : Nat) : Int) = ((2 ^ k : Nat) : Int) * ((2 ^ j : Nat) : Int) := by rw [Nat.pow_add, Int.natCast_mul]
  have e0 : n * m * ((2 ^ (1074 - (k + j)) : Nat) : Int) * ((2 ^ (k + j) : Nat) : Int) = n * m * (own_U : Int) := by rw [own_U_split hk, Int.mul_assoc]
  have e : own_z x * own_z y = n * m * ((2 ^ (1074 - (k + j)) : Nat) : Int) * (own_U : Int) := by
    refine Int.eq_of_mul_eq_mul_right (Int.ne_of_gt (own_two_pos (k + j))) ?_
    calc own_z x * own_z y * ((2 ^ (k + j) : Nat) : Int) = (own_z x * ((2 ^ k : Nat) : Int)) * (own_z y * ((2 ^ j : Nat) : Int)) := by rw [hp]; ac_rfl
      _ = (n * (own_U : Int)) * (m * (own_U : Int)) := by rw [hx.2, hy.2]
      _ = n * m * (own_U : Int) * (own_U : Int) := by ac_rfl
      _ = n * m * ((2 ^ (1074 - (k + j)) : Nat) : Int) * ((2 ^ (k + j) : Nat) : Int) * (own_U : Int) := by rw [e0]
      _ = n * m * ((2 ^ (1074 - (k + j)) : Nat) : Int) * (own_U : Int) * ((2 ^ (k + j) : Nat) : Int) := by ac_rfl
  obtain ⟨a, b⟩ := own_mul hx.1 hy.1 (own_rep_of e0 hn hk).2 e
  exact ⟨a, by rw [b]; exact e0⟩
theorem own_is.div {x y : UInt64} {n m q : Int} {k j i : Nat} (hx : own_is x n k) (hy : own_is y m j) (pn : 0 ≤ n) (pm : 0 < m) (hq : q.natAbs < 2 ^ 53) (hi : i ≤ 1074)
    (h : n * ((2 ^ j : Nat) : Int) * ((2 ^ i : Nat) : Int) = q * m * ((2 ^ k : Nat) : Int)) : own_is (ddiv x y) q i := by
  have e0 : q * ((2 ^ (1074 - i) : Nat) : Int) * ((2 ^ i : Nat) : Int) = q * (own_U : Int) := by rw [own_U_split hi, Int.mul_assoc]
  have px : 0 ≤ own_z x := by
    refine Int.not_lt.mp fun z => ?_
    have h1 := Int.mul_neg_of_neg_of_pos z (own_two_pos k)
    have h2 := Int.mul_nonneg pn (Int.le_of_lt own_U_pos)
    rw [hx.2] at h1; omega
  have py : 0 < own_z y := by
    refine Int.not_le.mp fun z => ?_
    have h1 : own_z y * ((2 ^ j : Nat) : Int) ≤ 0 := Int.mul_nonpos_of_nonpos_of_nonneg z (Int.le_of_lt (own_two_pos j))
    have h2 := Int.mul_pos pm own_U_pos
    rw [hy.2] at h1; omega
  have e : own_z x * (own_U : Int) = q * ((2 ^ (1074 - i) : Nat) : Int) * own_z y := by
    refine Int.eq_of_mul_eq_mul_right (Int.ne_of_gt (Int.mul_pos (Int.mul_pos (own_two_pos k) (own_two_pos j)) (own_two_pos i))) ?_
    calc own_z x * (own_U : Int) * (((2 ^ k : Nat) : Int) * ((2 ^ j : Nat) : Int) * ((2 ^ i : Nat) : Int)) = (own_z x * ((2 ^ k : Nat) : Int)) * (own_U : Int) * ((2 ^ j : Nat) : Int) * ((2 ^ i : Nat) : Int) := by ac_rfl
      _ = (n * ((2 ^ j : Nat) : Int) * ((2 ^ i : Nat) : Int)) * (own_U : Int) * (own_U : Int) := by rw [hx.2]; ac_rfl
      _ = (q * (own_U : Int)) * (m * (own_U : Int)) * ((2 ^ k : Nat) : Int) := by rw [h]; ac_rfl
      _ = (q * ((2 ^ (1074 - i) : Nat) : Int) * ((2 ^ i : Nat) : Int)) * (own_z y * ((2 ^ j : Nat) : Int)) * ((2 ^ k : Nat) : Int) := by rw [e0, hy.2]
      _ = q * ((2 ^ (1074 - i) : Nat) : Int) * own_z y * (((2 ^ k : Nat) : Int) * ((2 ^ j : Nat) : Int) * ((2 ^ i : Nat) : Int)) := by ac_rfl
  obtain ⟨a, b⟩ := own_div hx.1 hy.1 px py (own_rep_of e0 hq hi).2 e
  exact ⟨a, by rw [b]; exact e0⟩
theorem own_is.scale {x : UInt64} {n : Int} {k : Nat} (h : own_is x n k) (i : Nat) : own_is x (n * ((2 ^ i : Nat) : Int)) (k + i) := by
  refine ⟨h.1, ?_⟩
  rw [Nat.pow_add, Int.natCast_mul, ← Int.mul_assoc, h.2]; ac_rfl
theorem own_is.l2d {a : Int64} (h : a.toInt.natAbs < 2 ^ 53) : own_is (l2d a) a.toInt 0 := by
  refine ⟨l2d_fin a, ?_⟩
  have hs : Small53 a := by unfold Small53; omega
  have e := whole_zval good_b64 (val64_fits (Jvm.FP.Core.l2d a)) (l2d_whole hs)
  rw [show (-b64.qmin).toNat = 1074 by rw [qmin_b64]; rfl] at e
  show zval b64 (val64 (Jvm.FP.Core.l2d a)) * _ = _
  rw [e, Nat.pow_zero]
  show _ * (1 : Int) = _
  rw [Int.mul_one, own_U_eq]
theorem own_is.i2d (a : Int32) : own_is (i2d a) a.toInt 0 := by
  rw [i2d_l2d]
  have h := own_is.l2d (a := a.toInt64) (by rw [Int32.toInt_toInt64]; have := a.le_toInt; have := a.toInt_lt; omega)
  rw [Int32.toInt_toInt64] at h
  exact h
theorem own_is.lt_iff {x y : UInt64} {n m : Int} {k : Nat} (hx : own_is x n k) (hy : own_is y m k) : own_z x < own_z y ↔ n < m := by
  have h1 : own_z x * ((2 ^ k : Nat) : Int) < own_z y * ((2 ^ k : Nat) : Int) ↔ own_z x < own_z y := Int.mul_lt_mul_right (own_two_pos k)
  rw [← h1, hx.2, hy.2]
  exact Int.mul_lt_mul_right own_U_pos
theorem own_is.eq_iff {x y : UInt64} {n m : Int} {k : Nat} (hx : own_is x n k) (hy : own_is y m k) : own_z x = own_z y ↔ n = m := by
  have h1 := hx.lt_iff hy
  have h2 := hy.lt_iff hx
  omega
theorem own_cmp_eq {x y : UInt64} (h1 : val64 x ≠ .nan) (h2 : val64 y ≠ .nan) (h : own_z x = own_z y) (o : ClassFile.CmpOp) : Jvm.Op.cmpValue (FP.dcmp x y) o = 0 := by
  rw [show FP.dcmp x y = some .eq from dcmp_eq.mpr ⟨h1, h2, h⟩]; rfl
theorem own_cmp_lt {x y : UInt64} (h1 : val64 x ≠ .nan) (h2 : val64 y ≠ .nan) (h : own_z x < own_z y) (o : ClassFile.CmpOp) : Jvm.Op.cmpValue (FP.dcmp x y) o = -1 := by
  rw [show FP.dcmp x y = some .lt from dcmp_lt.mpr ⟨h1, h2, h⟩]; rfl
theorem own_cmp_gt {x y : UInt64} (h1 : val64 x ≠ .nan) (h2 : val64 y ≠ .nan) (h : own_z y < own_z x) (o : ClassFile.CmpOp) : Jvm.Op.cmpValue (FP.dcmp x y) o = 1 := by
  rw [show FP.dcmp x y = some .gt from dcmp_gt.mpr ⟨h1, h2, h⟩]; rfl
theorem own_cmp_ge {x y : UInt64} (h1 : val64 x ≠ .nan) (h2 : val64 y ≠ .nan) (h : own_z y ≤ own_z x) (o : ClassFile.CmpOp) : ¬ Jvm.Op.cmpValue (FP.dcmp x y) o < 0 := by
  by_cases e : own_z x = own_z y
  · rw [own_cmp_eq h1 h2 e]; decide
  · rw [own_cmp_gt h1 h2 (by omega)]; decide
theorem own_cmp_le {x y : UInt64} (h1 : val64 x ≠ .nan) (h2 : val64 y ≠ .nan) (h : own_z x ≤ own_z y) (o : ClassFile.CmpOp) : ¬ 0 < Jvm.Op.cmpValue (FP.dcmp x y) o := by
  by_cases e : own_z x = own_z y
  · rw [own_cmp_eq h1 h2 e]; decide
  · rw [own_cmp_lt h1 h2 (by omega)]; decide
theorem own_nn_of {x : UInt64} (h : val64 x ≠ .nan) : Jvm.Free.Fl.NoNaN64 x := Jvm.Free.Fl.noNaN64_no.mpr ((notNaN_iff x).mpr h)
theorem own_is.nonneg {x : UInt64} {n : Int} {k : Nat} (hx : own_is x n k) (pn : 0 ≤ n) : 0 ≤ own_z x := by
  refine Int.not_lt.mp fun z => ?_
  have h1 := Int.mul_neg_of_neg_of_pos z (own_two_pos k)
  have h2 := Int.mul_nonneg pn (Int.le_of_lt own_U_pos)
  rw [hx.2] at h1; omega
theorem own_is.pos {x : UInt64} {n : Int} {k : Nat} (hx : own_is x n k) (pn : 0 < n) : 0 < own_z x := by
  refine Int.not_le.mp fun z => ?_
  have h1 : own_z x * ((2 ^ k : Nat) : Int) ≤ 0 := Int.mul_nonpos_of_nonpos_of_nonneg z (Int.le_of_lt (own_two_pos k))
  have h2 := Int.mul_pos pn own_U_pos
  rw [hx.2] at h1; omega
theorem own_is.z {x : UInt64} {n : Int} (hx : own_is x n 0) : own_z x = n * (own_U : Int) := by
  have h := hx.2
  rw [Nat.pow_zero] at h
  exact (Int.mul_one _).symm.trans h
theorem own_is.ceq {x y : UInt64} {n m : Int} {k : Nat} (hx : own_is x n k) (hy : own_is y m k) (h : n = m) (o : ClassFile.CmpOp) : Jvm.Op.cmpValue (FP.dcmp x y) o = 0 := own_cmp_eq hx.val hy.val ((hx.eq_iff hy).mpr h) o
theorem own_is.clt {x y : UInt64} {n m : Int} {k : Nat} (hx : own_is x n k) (hy : own_is y m k) (h : n < m) (o : ClassFile.CmpOp) : Jvm.Op.cmpValue (FP.dcmp x y) o = -1 := own_cmp_lt hx.val hy.val ((hx.lt_iff hy).mpr h) o
theorem own_is.cgt {x y : UInt64} {n m : Int} {k : Nat} (hx : own_is x n k) (hy : own_is y m k) (h : m < n) (o : ClassFile.CmpOp) : Jvm.Op.cmpValue (FP.dcmp x y) o = 1 := own_cmp_gt hx.val hy.val ((hy.lt_iff hx).mpr h) o
theorem own_is.zero : own_is FP.dconst0 0 0 := by
  refine ⟨⟨_, _, _, val64_dconst0⟩, ?_⟩
  show zval b64 (val64 dconst0) * _ = _
  rw [val64_dconst0, Int.zero_mul]
  show signed false (0 * _) * _ = _
  rw [Nat.zero_mul, signed_zero, Int.zero_mul]
theorem own_is.one : own_is FP.dconst1 1 0 := by
  refine ⟨⟨_, _, _, val64_dconst1⟩, ?_⟩
  show zval b64 (val64 dconst1) * _ = _
  rw [val64_dconst1, own_U_eq]
  decide +kernel
end Jvm.OwnFl
namespace Jvm.Pilot.@@N@@
open Jvm Jvm.ClassFile Sem Op Lib Jvm.Free Jvm.Stand Jvm.LawKit Jvm.RoadKit Bundle Jvm.Free.Fl Jvm.OwnFl Jvm.Pilot.@@N@@.Jvm.D
theorem own_hw {a0 : Array Value} {Z : State} (hw : ∀ d ∈ tables_1, d.before a0 Z = true) (i : Nat) {d : Jvm.Cond} (h : tables_1[i]? = some d) : d.before a0 Z = true := hw d (List.mem_of_getElem? h)
section OwnKit
variable {p : Program} {l : Launch} {e : Env} {R : Room} {s : State} {m : MethodId} {args : Array Value} {below : List Frame} {meth : Method} {c : Code} {T : State} {locs : List Loc} {cells slots : Nat}
/-- from the state t the run goes on to a return of which Q holds -/
def own_Go (p : Program) (e : Env) (below : List Frame) (Fe : Outcome → State → List Loc → Prop) (Q : Option Value → Heap → List Loc → Prop) (t : State) : Prop :=
  ∃ s₂ o, Steps p.tables e below t s₂ ∧ s₂.status = .running ∧ Ended s₂ below o ∧ ∃ v L, o = .returned v ∧ Q v s₂.heap L ∧ Fe o s₂ L
theorem own_st {Fe : Outcome → State → List Loc → Prop} {Q : Option Value → Heap → List Loc → Prop} {t t' : State} (h : ∀ target, Steps p.tables e below t' target → Steps p.tables e below t target) (k : own_Go p e below Fe Q t') : own_Go p e below Fe Q t := by
  obtain ⟨s₂, o, h1, r⟩ := k
  exact ⟨s₂, o, h _ h1, r⟩
theorem own_tr {Fe : Outcome → State → List Loc → Prop} {Q : Option Value → Heap → List Loc → Prop} {t t' : State} (h : Steps p.tables e below t t') (k : own_Go p e below Fe Q t') : own_Go p e below Fe Q t := own_st (fun _ q => h.trans q) k
theorem own_ret (X : Stand p l e R s m args below meth c T locs cells slots) {K N : Nat} {Q : Option Value → Heap → List Loc → Prop} {t : State} (v : Option Value) (hv : meth.sig.returnType = none → v = none) (hlocks : meth.locks = false) (hK : cells ≤ K) (hN : slots ≤ N) (hQ : Q v T.heap locs)
    (hs : ∀ fs : List Frame, (∀ (f : JFrame) (acts : List Action), f.method = m → f.locked = none → f.entered = [] → (doReturn e (T.setTop f) acts v).1 = T.setFrames fs) → Steps p.tables e below t (T.setFrames fs)) : own_Go p e below (fun o u L => FrameEnd s o u L K N) Q t := by
  obtain ⟨fs, hr, hrun, hended, hW, hsame⟩ := X.leave (v := v) hv
  exact ⟨_, _, hs fs hr, hrun, hended, _, _, rfl, hQ, ⟨_, rfl⟩, hW, hsame.mono hK hN⟩
theorem own_retI (X : Stand p l e R s m args below meth c T locs cells slots) (hx : p.tables.exec = Jvm.exec) {pc : Nat} {Ls : Array Slot} {z : Int32} {rest : List Value} (hret : meth.sig.returnType = some .int) (hd : decode c.code pc = .ok (.ireturn, 1)) {fs : List Frame}
    (hl : ∀ (f : JFrame) (acts : List Action), f.method = m → f.locked = none → f.entered = [] → (doReturn e (T.setTop f) acts (some (.int z))).1 = T.setFrames fs) : Steps p.tables e below (T.setTop (mkF m pc Ls (.int z :: rest))) (T.setFrames fs) :=
  retOut X hx hret rfl (Or.inl ⟨rfl, Or.inl rfl, _, rfl⟩) hd hl
theorem own_retD (X : Stand p l e R s m args below meth c T locs cells slots) (hx : p.tables.exec = Jvm.exec) {pc : Nat} {Ls : Array Slot} {z : UInt64} {rest : List Value} (hret : meth.sig.returnType = some .double) (hd : decode c.code pc = .ok (.dreturn, 1)) {fs : List Frame}
    (hl : ∀ (f : JFrame) (acts : List Action), f.method = m → f.locked = none → f.entered = [] → (doReturn e (T.setTop f) acts (some (.double z))).1 = T.setFrames fs) : Steps p.tables e below (T.setTop (mkF m pc Ls (.double z :: rest))) (T.setFrames fs) :=
  retOut X hx hret rfl (Or.inr (Or.inr (Or.inl ⟨rfl, rfl, _, rfl⟩))) hd hl
theorem own_retJ (X : Stand p l e R s m args below meth c T locs cells slots) (hx : p.tables.exec = Jvm.exec) {pc : Nat} {Ls : Array Slot} {z : Int64} {rest : List Value} (hret : meth.sig.returnType = some .long) (hd : decode c.code pc = .ok (.lreturn, 1)) {fs : List Frame}
    (hl : ∀ (f : JFrame) (acts : List Action), f.method = m → f.locked = none → f.entered = [] → (doReturn e (T.setTop f) acts (some (.long z))).1 = T.setFrames fs) : Steps p.tables e below (T.setTop (mkF m pc Ls (.long z :: rest))) (T.setFrames fs) :=
  retOut X hx hret rfl (Or.inr (Or.inl ⟨rfl, rfl, _, rfl⟩)) hd hl
theorem own_retR (X : Stand p l e R s m args below meth c T locs cells slots) (hx : p.tables.exec = Jvm.exec) {pc : Nat} {Ls : Array Slot} {w : Value} {rest : List Value} {t : FieldType} (hret : meth.sig.returnType = some t) (ht : t.isReference = true) (hw : w.isRef = true) (hd : decode c.code pc = .ok (.areturn, 1)) {fs : List Frame}
    (hl : ∀ (f : JFrame) (acts : List Action), f.method = m → f.locked = none → f.entered = [] → (doReturn e (T.setTop f) acts (some w)).1 = T.setFrames fs) : Steps p.tables e below (T.setTop (mkF m pc Ls (w :: rest))) (T.setFrames fs) :=
  retOut X hx hret (by cases t <;> first | (cases ht; done) | rfl) (Or.inr (Or.inr (Or.inr (Or.inr ⟨rfl, ht, hw⟩)))) hd hl
theorem own_staKeep {Z : State} {h h' : Heap} {C n d : String} {v : Value} {ws : List Addr} (F : Sta Z h C n d v) (K : Keep h h' ws) (hn : ∀ x ∈ ws, ∀ cell : Cell, h[x]? = some cell → cell.vm.isStatics = false) : Sta Z h' C n d v := by
  obtain ⟨cf, i, k, f, st, cell, h1, h2, h3, h4, h5, h6, h7⟩ := F
  exact ⟨cf, i, k, f, st, cell, h1, h2, h3, h4, K.2.1 st cell h5 (fun q => by have := hn st q cell h5; rw [h6] at this; cases this), h6, h7⟩
end OwnKit
section OwnSteps
variable {p : Program} {l : Launch} {e : Env} {R : Room} {s : State} {m : MethodId} {args : Array Value} {below : List Frame} {meth : Method} {c : Code} {T : State} {locs : List Loc} {cells slots : Nat} {Fe : Outcome → State → List Loc → Prop} {Q : Option Value → Heap → List Loc → Prop} {pc : Nat} {Ls : Array Slot} {st : List Value} {Z : State} {a0 : Array Value} {h : Heap}
theorem own_iload (X : Stand p l e R s m args below meth c T locs cells slots) (hx : p.tables.exec = Jvm.exec) {i : Nat} {v : Int32} (pc' : Nat) (hp : pc + 2 = pc') (hd : decode c.code pc = .ok (.iload i, 2)) (hl : Ls[i]? = some (.val (.int v))) (k : own_Go p e below Fe Q (T.setTop (mkF m pc' Ls (.int v :: st)))) : own_Go p e below Fe Q (T.setTop (mkF m pc Ls (st))) := by
  subst hp
  exact own_st (fun _ hr => XS.iload X.here hx rfl hd hl hr) k
theorem own_iloadN (X : Stand p l e R s m args below meth c T locs cells slots) (hx : p.tables.exec = Jvm.exec) {i : Fin 4} {v : Int32} (pc' : Nat) (hp : pc + 1 = pc') (hd : decode c.code pc = .ok (.iload_n i, 1)) (hl : Ls[i.val]? = some (.val (.int v))) (k : own_Go p e below Fe Q (T.setTop (mkF m pc' Ls (.int v :: st)))) : own_Go p e below Fe Q (T.setTop (mkF m pc Ls (st))) := by
  subst hp
  exact own_st (fun _ hr => XS.iloadN X.here hx rfl hd hl hr) k
theorem own_istore (X : Stand p l e R s m args below meth c T locs cells slots) (hx : p.tables.exec = Jvm.exec) {i : Nat} {x : Int32} (pc' : Nat) (hp : pc + 2 = pc') (hd : decode c.code pc = .ok (.istore i, 2)) (Ls' : Array Slot) (hl : storeLocals Ls i (.int x) = some Ls') (k : own_Go p e below Fe Q (T.setTop (mkF m pc' Ls' (st)))) : own_Go p e below Fe Q (T.setTop (mkF m pc Ls (.int x :: st))) := by
  subst hp
  exact own_st (fun _ hr => XS.istore X.here hx rfl hd rfl hl hr) k
theorem own_istoreN (X : Stand p l e R s m args below meth c T locs cells slots) (hx : p.tables.exec = Jvm.exec) {i : Fin 4} {x : Int32} (pc' : Nat) (hp : pc + 1 = pc') (hd : decode c.code pc = .ok (.istore_n i, 1)) (Ls' : Array Slot) (hl : storeLocals Ls i.val (.int x) = some Ls') (k : own_Go p e below Fe Q (T.setTop (mkF m pc' Ls' (st)))) : own_Go p e below Fe Q (T.setTop (mkF m pc Ls (.int x :: st))) := by
  subst hp
  exact own_st (fun _ hr => XS.istoreN X.here hx rfl hd rfl hl hr) k
theorem own_lload (X : Stand p l e R s m args below meth c T locs cells slots) (hx : p.tables.exec = Jvm.exec) {i : Nat} {v : Int64} (pc' : Nat) (hp : pc + 2 = pc') (hd : decode c.code pc = .ok (.lload i, 2)) (hl : Ls[i]? = some (.val (.long v))) (k : own_Go p e below Fe Q (T.setTop (mkF m pc' Ls (.long v :: st)))) : own_Go p e below Fe Q (T.setTop (mkF m pc Ls (st))) := by
  subst hp
  exact own_st (fun _ hr => XS.lload X.here hx rfl hd hl hr) k
theorem own_lloadN (X : Stand p l e R s m args below meth c T locs cells slots) (hx : p.tables.exec = Jvm.exec) {i : Fin 4} {v : Int64} (pc' : Nat) (hp : pc + 1 = pc') (hd : decode c.code pc = .ok (.lload_n i, 1)) (hl : Ls[i.val]? = some (.val (.long v))) (k : own_Go p e below Fe Q (T.setTop (mkF m pc' Ls (.long v :: st)))) : own_Go p e below Fe Q (T.setTop (mkF m pc Ls (st))) := by
  subst hp
  exact own_st (fun _ hr => XS.lloadN X.here hx rfl hd hl hr) k
theorem own_lstore (X : Stand p l e R s m args below meth c T locs cells slots) (hx : p.tables.exec = Jvm.exec) {i : Nat} {x : Int64} (pc' : Nat) (hp : pc + 2 = pc') (hd : decode c.code pc = .ok (.lstore i, 2)) (Ls' : Array Slot) (hl : storeLocals Ls i (.long x) = some Ls') (k : own_Go p e below Fe Q (T.setTop (mkF m pc' Ls' (st)))) : own_Go p e below Fe Q (T.setTop (mkF m pc Ls (.long x :: st))) := by
  subst hp
  exact own_st (fun _ hr => XS.lstore X.here hx rfl hd rfl hl hr) k
theorem own_lstoreN (X : Stand p l e R s m args below meth c T locs cells slots) (hx : p.tables.exec = Jvm.exec) {i : Fin 4} {x : Int64} (pc' : Nat) (hp : pc + 1 = pc') (hd : decode c.code pc = .ok (.lstore_n i, 1)) (Ls' : Array Slot) (hl : storeLocals Ls i.val (.long x) = some Ls') (k : own_Go p e below Fe Q (T.setTop (mkF m pc' Ls' (st)))) : own_Go p e below Fe Q (T.setTop (mkF m pc Ls (.long x :: st))) := by
  subst hp
  exact own_st (fun _ hr => XS.lstoreN X.here hx rfl hd rfl hl hr) k
theorem own_dload (X : Stand p l e R s m args below meth c T locs cells slots) (hx : p.tables.exec = Jvm.exec) {i : Nat} {v : UInt64} (pc' : Nat) (hp : pc + 2 = pc') (hd : decode c.code pc = .ok (.dload i, 2)) (hl : Ls[i]? = some (.val (.double v))) (k : own_Go p e below Fe Q (T.setTop (mkF m pc' Ls (.double v :: st)))) : own_Go p e below Fe Q (T.setTop (mkF m pc Ls (st))) := by
  subst hp
  exact own_st (fun _ hr => XS.dload X.here hx rfl hd hl hr) k
theorem own_dloadN (X : Stand p l e R s m args below meth c T locs cells slots) (hx : p.tables.exec = Jvm.exec) {i : Fin 4} {v : UInt64} (pc' : Nat) (hp : pc + 1 = pc') (hd : decode c.code pc = .ok (.dload_n i, 1)) (hl : Ls[i.val]? = some (.val (.double v))) (k : own_Go p e below Fe Q (T.setTop (mkF m pc' Ls (.double v :: st)))) : own_Go p e below Fe Q (T.setTop (mkF m pc Ls (st))) := by
  subst hp
  exact own_st (fun _ hr => XS.dloadN X.here hx rfl hd hl hr) k
theorem own_dstore (X : Stand p l e R s m args below meth c T locs cells slots) (hx : p.tables.exec = Jvm.exec) {i : Nat} {x : UInt64} (pc' : Nat) (hp : pc + 2 = pc') (hd : decode c.code pc = .ok (.dstore i, 2)) (Ls' : Array Slot) (hl : storeLocals Ls i (.double x) = some Ls') (k : own_Go p e below Fe Q (T.setTop (mkF m pc' Ls' (st)))) : own_Go p e below Fe Q (T.setTop (mkF m pc Ls (.double x :: st))) := by
  subst hp
  exact own_st (fun _ hr => XS.dstore X.here hx rfl hd rfl hl hr) k
theorem own_dstoreN (X : Stand p l e R s m args below meth c T locs cells slots) (hx : p.tables.exec = Jvm.exec) {i : Fin 4} {x : UInt64} (pc' : Nat) (hp : pc + 1 = pc') (hd : decode c.code pc = .ok (.dstore_n i, 1)) (Ls' : Array Slot) (hl : storeLocals Ls i.val (.double x) = some Ls') (k : own_Go p e below Fe Q (T.setTop (mkF m pc' Ls' (st)))) : own_Go p e below Fe Q (T.setTop (mkF m pc Ls (.double x :: st))) := by
  subst hp
  exact own_st (fun _ hr => XS.dstoreN X.here hx rfl hd rfl hl hr) k
theorem own_aload (X : Stand p l e R s m args below meth c T locs cells slots) (hx : p.tables.exec = Jvm.exec) {i : Nat} {v : Value} (pc' : Nat) (hp : pc + 2 = pc') (hd : decode c.code pc = .ok (.aload i, 2)) (hl : Ls[i]? = some (.val v)) (hv : v.isRef = true) (k : own_Go p e below Fe Q (T.setTop (mkF m pc' Ls (v :: st)))) : own_Go p e below Fe Q (T.setTop (mkF m pc Ls (st))) := by
  subst hp
  exact own_st (fun _ hr => XS.aload X.here hx rfl hd hl hv hr) k
theorem own_aloadN (X : Stand p l e R s m args below meth c T locs cells slots) (hx : p.tables.exec = Jvm.exec) {i : Fin 4} {v : Value} (pc' : Nat) (hp : pc + 1 = pc') (hd : decode c.code pc = .ok (.aload_n i, 1)) (hl : Ls[i.val]? = some (.val v)) (hv : v.isRef = true) (k : own_Go p e below Fe Q (T.setTop (mkF m pc' Ls (v :: st)))) : own_Go p e below Fe Q (T.setTop (mkF m pc Ls (st))) := by
  subst hp
  exact own_st (fun _ hr => XS.aloadN X.here hx rfl hd hl hv hr) k
theorem own_astore (X : Stand p l e R s m args below meth c T locs cells slots) (hx : p.tables.exec = Jvm.exec) {i : Nat} {x : Value} (pc' : Nat) (hp : pc + 2 = pc') (hd : decode c.code pc = .ok (.astore i, 2)) (hv : x.isRef = true) (Ls' : Array Slot) (hl : storeLocals Ls i x = some Ls') (k : own_Go p e below Fe Q (T.setTop (mkF m pc' Ls' (st)))) : own_Go p e below Fe Q (T.setTop (mkF m pc Ls (x :: st))) := by
  subst hp
  exact own_st (fun _ hr => XS.astore X.here hx rfl hd rfl hv hl hr) k
theorem own_astoreN (X : Stand p l e R s m args below meth c T locs cells slots) (hx : p.tables.exec = Jvm.exec) {i : Fin 4} {x : Value} (pc' : Nat) (hp : pc + 1 = pc') (hd : decode c.code pc = .ok (.astore_n i, 1)) (hv : x.isRef = true) (Ls' : Array Slot) (hl : storeLocals Ls i.val x = some Ls') (k : own_Go p e below Fe Q (T.setTop (mkF m pc' Ls' (st)))) : own_Go p e below Fe Q (T.setTop (mkF m pc Ls (x :: st))) := by
  subst hp
  exact own_st (fun _ hr => XS.astoreN X.here hx rfl hd rfl hv hl hr) k
theorem own_iconst (X : Stand p l e R s m args below meth c T locs cells slots) (hx : p.tables.exec = Jvm.exec) {i : Int} (pc' : Nat) (hp : pc + 1 = pc') (hd : decode c.code pc = .ok (.iconst i, 1)) (z : Int32) (hz : Int32.ofInt i = z) (k : own_Go p e below Fe Q (T.setTop (mkF m pc' Ls (.int z :: st)))) : own_Go p e below Fe Q (T.setTop (mkF m pc Ls (st))) := by
  subst hp; subst hz
  exact own_st (fun _ hr => XS.iconst X.here hx rfl hd hr) k
theorem own_bipush (X : Stand p l e R s m args below meth c T locs cells slots) (hx : p.tables.exec = Jvm.exec) {i : Int} (pc' : Nat) (hp : pc + 2 = pc') (hd : decode c.code pc = .ok (.bipush i, 2)) (z : Int32) (hz : (Int8.ofInt i).toInt32 = z) (k : own_Go p e below Fe Q (T.setTop (mkF m pc' Ls (.int z :: st)))) : own_Go p e below Fe Q (T.setTop (mkF m pc Ls (st))) := by
  subst hp; subst hz
  exact own_st (fun _ hr => XS.bipush X.here hx rfl hd hr) k
theorem own_sipush (X : Stand p l e R s m args below meth c T locs cells slots) (hx : p.tables.exec = Jvm.exec) {i : Int} (pc' : Nat) (hp : pc + 3 = pc') (hd : decode c.code pc = .ok (.sipush i, 3)) (z : Int32) (hz : (Int16.ofInt i).toInt32 = z) (k : own_Go p e below Fe Q (T.setTop (mkF m pc' Ls (.int z :: st)))) : own_Go p e below Fe Q (T.setTop (mkF m pc Ls (st))) := by
  subst hp; subst hz
  exact own_st (fun _ hr => XS.sipush X.here hx rfl hd hr) k
theorem own_lconst (X : Stand p l e R s m args below meth c T locs cells slots) (hx : p.tables.exec = Jvm.exec) {i : Fin 2} (pc' : Nat) (hp : pc + 1 = pc') (hd : decode c.code pc = .ok (.lconst i, 1)) (z : Int64) (hz : Int64.ofNat i = z) (k : own_Go p e below Fe Q (T.setTop (mkF m pc' Ls (.long z :: st)))) : own_Go p e below Fe Q (T.setTop (mkF m pc Ls (st))) := by
  subst hp; subst hz
  exact own_st (fun _ hr => XS.lconst X.here hx rfl hd hr) k
theorem own_dconst0 (X : Stand p l e R s m args below meth c T locs cells slots) (hx : p.tables.exec = Jvm.exec)  (pc' : Nat) (hp : pc + 1 = pc') (hd : decode c.code pc = .ok (.dconst 0, 1))  (k : own_Go p e below Fe Q (T.setTop (mkF m pc' Ls (.double FP.dconst0 :: st)))) : own_Go p e below Fe Q (T.setTop (mkF m pc Ls (st))) := by
  subst hp
  exact own_st (fun _ hr => XS.dconst0 X.here hx rfl hd rfl hr) k
theorem own_dconst1 (X : Stand p l e R s m args below meth c T locs cells slots) (hx : p.tables.exec = Jvm.exec)  (pc' : Nat) (hp : pc + 1 = pc') (hd : decode c.code pc = .ok (.dconst 1, 1))  (k : own_Go p e below Fe Q (T.setTop (mkF m pc' Ls (.double FP.dconst1 :: st)))) : own_Go p e below Fe Q (T.setTop (mkF m pc Ls (st))) := by
  subst hp
  exact own_st (fun _ hr => XS.dconst1 X.here hx rfl hd rfl hr) k
theorem own_aconst_null (X : Stand p l e R s m args below meth c T locs cells slots) (hx : p.tables.exec = Jvm.exec)  (pc' : Nat) (hp : pc + 1 = pc') (hd : decode c.code pc = .ok (.aconst_null, 1))  (k : own_Go p e below Fe Q (T.setTop (mkF m pc' Ls (.null :: st)))) : own_Go p e below Fe Q (T.setTop (mkF m pc Ls (st))) := by
  subst hp
  exact own_st (fun _ hr => XS.aconstNull X.here hx rfl hd hr) k
theorem own_iadd (X : Stand p l e R s m args below meth c T locs cells slots) (hx : p.tables.exec = Jvm.exec) {x y : Int32} (pc' : Nat) (hp : pc + 1 = pc') (hd : decode c.code pc = .ok (.iadd, 1)) (z : Int32) (hz : x + y = z) (k : own_Go p e below Fe Q (T.setTop (mkF m pc' Ls (.int z :: st)))) : own_Go p e below Fe Q (T.setTop (mkF m pc Ls (.int y :: .int x :: st))) := by
  subst hp; subst hz
  exact own_st (fun _ hr => XS.iadd X.here hx rfl hd rfl hr) k
theorem own_isub (X : Stand p l e R s m args below meth c T locs cells slots) (hx : p.tables.exec = Jvm.exec) {x y : Int32} (pc' : Nat) (hp : pc + 1 = pc') (hd : decode c.code pc = .ok (.isub, 1)) (z : Int32) (hz : x - y = z) (k : own_Go p e below Fe Q (T.setTop (mkF m pc' Ls (.int z :: st)))) : own_Go p e below Fe Q (T.setTop (mkF m pc Ls (.int y :: .int x :: st))) := by
  subst hp; subst hz
  exact own_st (fun _ hr => XS.isub X.here hx rfl hd rfl hr) k
theorem own_imul (X : Stand p l e R s m args below meth c T locs cells slots) (hx : p.tables.exec = Jvm.exec) {x y : Int32} (pc' : Nat) (hp : pc + 1 = pc') (hd : decode c.code pc = .ok (.imul, 1)) (z : Int32) (hz : x * y = z) (k : own_Go p e below Fe Q (T.setTop (mkF m pc' Ls (.int z :: st)))) : own_Go p e below Fe Q (T.setTop (mkF m pc Ls (.int y :: .int x :: st))) := by
  subst hp; subst hz
  exact own_st (fun _ hr => XS.imul X.here hx rfl hd rfl hr) k
theorem own_iand (X : Stand p l e R s m args below meth c T locs cells slots) (hx : p.tables.exec = Jvm.exec) {x y : Int32} (pc' : Nat) (hp : pc + 1 = pc') (hd : decode c.code pc = .ok (.iand, 1)) (z : Int32) (hz : x &&& y = z) (k : own_Go p e below Fe Q (T.setTop (mkF m pc' Ls (.int z :: st)))) : own_Go p e below Fe Q (T.setTop (mkF m pc Ls (.int y :: .int x :: st))) := by
  subst hp; subst hz
  exact own_st (fun _ hr => XS.iand X.here hx rfl hd rfl hr) k
theorem own_ior (X : Stand p l e R s m args below meth c T locs cells slots) (hx : p.tables.exec = Jvm.exec) {x y : Int32} (pc' : Nat) (hp : pc + 1 = pc') (hd : decode c.code pc = .ok (.ior, 1)) (z : Int32) (hz : x ||| y = z) (k : own_Go p e below Fe Q (T.setTop (mkF m pc' Ls (.int z :: st)))) : own_Go p e below Fe Q (T.setTop (mkF m pc Ls (.int y :: .int x :: st))) := by
  subst hp; subst hz
  exact own_st (fun _ hr => XS.ior X.here hx rfl hd rfl hr) k
theorem own_ixor (X : Stand p l e R s m args below meth c T locs cells slots) (hx : p.tables.exec = Jvm.exec) {x y : Int32} (pc' : Nat) (hp : pc + 1 = pc') (hd : decode c.code pc = .ok (.ixor, 1)) (z : Int32) (hz : x ^^^ y = z) (k : own_Go p e below Fe Q (T.setTop (mkF m pc' Ls (.int z :: st)))) : own_Go p e below Fe Q (T.setTop (mkF m pc Ls (.int y :: .int x :: st))) := by
  subst hp; subst hz
  exact own_st (fun _ hr => XS.ixor X.here hx rfl hd rfl hr) k
theorem own_ineg (X : Stand p l e R s m args below meth c T locs cells slots) (hx : p.tables.exec = Jvm.exec) {x : Int32} (pc' : Nat) (hp : pc + 1 = pc') (hd : decode c.code pc = .ok (.ineg, 1)) (z : Int32) (hz : -x = z) (k : own_Go p e below Fe Q (T.setTop (mkF m pc' Ls (.int z :: st)))) : own_Go p e below Fe Q (T.setTop (mkF m pc Ls (.int x :: st))) := by
  subst hp; subst hz
  exact own_st (fun _ hr => XS.ineg X.here hx rfl hd rfl hr) k
theorem own_idiv (X : Stand p l e R s m args below meth c T locs cells slots) (hx : p.tables.exec = Jvm.exec) {x y : Int32} (pc' : Nat) (hp : pc + 1 = pc') (hd : decode c.code pc = .ok (.idiv, 1)) (hy : y ≠ 0) (z : Int32) (hz : x / y = z) (k : own_Go p e below Fe Q (T.setTop (mkF m pc' Ls (.int z :: st)))) : own_Go p e below Fe Q (T.setTop (mkF m pc Ls (.int y :: .int x :: st))) := by
  subst hp; subst hz
  exact own_st (fun _ hr => XS.idiv X.here hx rfl hd rfl hy hr) k
theorem own_ladd (X : Stand p l e R s m args below meth c T locs cells slots) (hx : p.tables.exec = Jvm.exec) {x y : Int64} (pc' : Nat) (hp : pc + 1 = pc') (hd : decode c.code pc = .ok (.ladd, 1)) (z : Int64) (hz : x + y = z) (k : own_Go p e below Fe Q (T.setTop (mkF m pc' Ls (.long z :: st)))) : own_Go p e below Fe Q (T.setTop (mkF m pc Ls (.long y :: .long x :: st))) := by
  subst hp; subst hz
  exact own_st (fun _ hr => XS.ladd X.here hx rfl hd rfl hr) k
theorem own_lsub (X : Stand p l e R s m args below meth c T locs cells slots) (hx : p.tables.exec = Jvm.exec) {x y : Int64} (pc' : Nat) (hp : pc + 1 = pc') (hd : decode c.code pc = .ok (.lsub, 1)) (z : Int64) (hz : x - y = z) (k : own_Go p e below Fe Q (T.setTop (mkF m pc' Ls (.long z :: st)))) : own_Go p e below Fe Q (T.setTop (mkF m pc Ls (.long y :: .long x :: st))) := by
  subst hp; subst hz
  exact own_st (fun _ hr => XS.lsub X.here hx rfl hd rfl hr) k
theorem own_lmul (X : Stand p l e R s m args below meth c T locs cells slots) (hx : p.tables.exec = Jvm.exec) {x y : Int64} (pc' : Nat) (hp : pc + 1 = pc') (hd : decode c.code pc = .ok (.lmul, 1)) (z : Int64) (hz : x * y = z) (k : own_Go p e below Fe Q (T.setTop (mkF m pc' Ls (.long z :: st)))) : own_Go p e below Fe Q (T.setTop (mkF m pc Ls (.long y :: .long x :: st))) := by
  subst hp; subst hz
  exact own_st (fun _ hr => XS.lmul X.here hx rfl hd rfl hr) k
theorem own_land (X : Stand p l e R s m args below meth c T locs cells slots) (hx : p.tables.exec = Jvm.exec) {x y : Int64} (pc' : Nat) (hp : pc + 1 = pc') (hd : decode c.code pc = .ok (.land, 1)) (z : Int64) (hz : x &&& y = z) (k : own_Go p e below Fe Q (T.setTop (mkF m pc' Ls (.long z :: st)))) : own_Go p e below Fe Q (T.setTop (mkF m pc Ls (.long y :: .long x :: st))) := by
  subst hp; subst hz
  exact own_st (fun _ hr => XS.land X.here hx rfl hd rfl hr) k
theorem own_lor (X : Stand p l e R s m args below meth c T locs cells slots) (hx : p.tables.exec = Jvm.exec) {x y : Int64} (pc' : Nat) (hp : pc + 1 = pc') (hd : decode c.code pc = .ok (.lor, 1)) (z : Int64) (hz : x ||| y = z) (k : own_Go p e below Fe Q (T.setTop (mkF m pc' Ls (.long z :: st)))) : own_Go p e below Fe Q (T.setTop (mkF m pc Ls (.long y :: .long x :: st))) := by
  subst hp; subst hz
  exact own_st (fun _ hr => XS.lor X.here hx rfl hd rfl hr) k
theorem own_lxor (X : Stand p l e R s m args below meth c T locs cells slots) (hx : p.tables.exec = Jvm.exec) {x y : Int64} (pc' : Nat) (hp : pc + 1 = pc') (hd : decode c.code pc = .ok (.lxor, 1)) (z : Int64) (hz : x ^^^ y = z) (k : own_Go p e below Fe Q (T.setTop (mkF m pc' Ls (.long z :: st)))) : own_Go p e below Fe Q (T.setTop (mkF m pc Ls (.long y :: .long x :: st))) := by
  subst hp; subst hz
  exact own_st (fun _ hr => XS.lxor X.here hx rfl hd rfl hr) k
theorem own_lneg (X : Stand p l e R s m args below meth c T locs cells slots) (hx : p.tables.exec = Jvm.exec) {x : Int64} (pc' : Nat) (hp : pc + 1 = pc') (hd : decode c.code pc = .ok (.lneg, 1)) (z : Int64) (hz : -x = z) (k : own_Go p e below Fe Q (T.setTop (mkF m pc' Ls (.long z :: st)))) : own_Go p e below Fe Q (T.setTop (mkF m pc Ls (.long x :: st))) := by
  subst hp; subst hz
  exact own_st (fun _ hr => XS.lneg X.here hx rfl hd rfl hr) k
theorem own_ldiv (X : Stand p l e R s m args below meth c T locs cells slots) (hx : p.tables.exec = Jvm.exec) {x y : Int64} (pc' : Nat) (hp : pc + 1 = pc') (hd : decode c.code pc = .ok (.ldiv, 1)) (hy : y ≠ 0) (z : Int64) (hz : x / y = z) (k : own_Go p e below Fe Q (T.setTop (mkF m pc' Ls (.long z :: st)))) : own_Go p e below Fe Q (T.setTop (mkF m pc Ls (.long y :: .long x :: st))) := by
  subst hp; subst hz
  exact own_st (fun _ hr => XS.ldiv X.here hx rfl hd rfl hy hr) k
theorem own_irem (X : Stand p l e R s m args below meth c T locs cells slots) (hx : p.tables.exec = Jvm.exec) {x y : Int32} (pc' : Nat) (hp : pc + 1 = pc') (hd : decode c.code pc = .ok (.irem, 1)) (hy : y ≠ 0) (z : Int32) (hz : x % y = z) (k : own_Go p e below Fe Q (T.setTop (mkF m pc' Ls (.int z :: st)))) : own_Go p e below Fe Q (T.setTop (mkF m pc Ls (.int y :: .int x :: st))) := by
  subst hp; subst hz
  exact own_st (fun _ hr => iremM (g := mkF m pc Ls (.int y :: .int x :: st)) X hx rfl hd rfl hy hr) k
theorem own_lrem (X : Stand p l e R s m args below meth c T locs cells slots) (hx : p.tables.exec = Jvm.exec) {x y : Int64} (pc' : Nat) (hp : pc + 1 = pc') (hd : decode c.code pc = .ok (.lrem, 1)) (hy : y ≠ 0) (z : Int64) (hz : x % y = z) (k : own_Go p e below Fe Q (T.setTop (mkF m pc' Ls (.long z :: st)))) : own_Go p e below Fe Q (T.setTop (mkF m pc Ls (.long y :: .long x :: st))) := by
  subst hp; subst hz
  exact own_st (fun _ hr => XS.lrem X.here hx rfl hd rfl hy (by rw [lrem_mod]; exact hr)) k
theorem own_ishl (X : Stand p l e R s m args below meth c T locs cells slots) (hx : p.tables.exec = Jvm.exec) {x : Int32} {y : Int32} (pc' : Nat) (hp : pc + 1 = pc') (hd : decode c.code pc = .ok (.ishl, 1)) (z : Int32) (hz : x <<< (y &&& 31) = z) (k : own_Go p e below Fe Q (T.setTop (mkF m pc' Ls (.int z :: st)))) : own_Go p e below Fe Q (T.setTop (mkF m pc Ls (.int y :: .int x :: st))) := by
  subst hp; subst hz
  exact own_st (fun _ hr => XS.ishl X.here hx rfl hd rfl hr) k
theorem own_ishr (X : Stand p l e R s m args below meth c T locs cells slots) (hx : p.tables.exec = Jvm.exec) {x : Int32} {y : Int32} (pc' : Nat) (hp : pc + 1 = pc') (hd : decode c.code pc = .ok (.ishr, 1)) (z : Int32) (hz : x >>> (y &&& 31) = z) (k : own_Go p e below Fe Q (T.setTop (mkF m pc' Ls (.int z :: st)))) : own_Go p e below Fe Q (T.setTop (mkF m pc Ls (.int y :: .int x :: st))) := by
  subst hp; subst hz
  exact own_st (fun _ hr => XS.ishr X.here hx rfl hd rfl hr) k
theorem own_iushr (X : Stand p l e R s m args below meth c T locs cells slots) (hx : p.tables.exec = Jvm.exec) {x : Int32} {y : Int32} (pc' : Nat) (hp : pc + 1 = pc') (hd : decode c.code pc = .ok (.iushr, 1)) (z : Int32) (hz : (x.toUInt32 >>> (y &&& 31).toUInt32).toInt32 = z) (k : own_Go p e below Fe Q (T.setTop (mkF m pc' Ls (.int z :: st)))) : own_Go p e below Fe Q (T.setTop (mkF m pc Ls (.int y :: .int x :: st))) := by
  subst hp; subst hz
  exact own_st (fun _ hr => XS.iushr X.here hx rfl hd rfl hr) k
theorem own_lshl (X : Stand p l e R s m args below meth c T locs cells slots) (hx : p.tables.exec = Jvm.exec) {x : Int64} {y : Int32} (pc' : Nat) (hp : pc + 1 = pc') (hd : decode c.code pc = .ok (.lshl, 1)) (z : Int64) (hz : x <<< (y &&& 0x3f).toInt64 = z) (k : own_Go p e below Fe Q (T.setTop (mkF m pc' Ls (.long z :: st)))) : own_Go p e below Fe Q (T.setTop (mkF m pc Ls (.int y :: .long x :: st))) := by
  subst hp; subst hz
  exact own_st (fun _ hr => XS.lshl X.here hx rfl hd rfl hr) k
theorem own_lshr (X : Stand p l e R s m args below meth c T locs cells slots) (hx : p.tables.exec = Jvm.exec) {x : Int64} {y : Int32} (pc' : Nat) (hp : pc + 1 = pc') (hd : decode c.code pc = .ok (.lshr, 1)) (z : Int64) (hz : x >>> (y &&& 0x3f).toInt64 = z) (k : own_Go p e below Fe Q (T.setTop (mkF m pc' Ls (.long z :: st)))) : own_Go p e below Fe Q (T.setTop (mkF m pc Ls (.int y :: .long x :: st))) := by
  subst hp; subst hz
  exact own_st (fun _ hr => XS.lshr X.here hx rfl hd rfl hr) k
theorem own_lushr (X : Stand p l e R s m args below meth c T locs cells slots) (hx : p.tables.exec = Jvm.exec) {x : Int64} {y : Int32} (pc' : Nat) (hp : pc + 1 = pc') (hd : decode c.code pc = .ok (.lushr, 1)) (z : Int64) (hz : (x.toUInt64 >>> (y &&& 0x3f).toInt64.toUInt64).toInt64 = z) (k : own_Go p e below Fe Q (T.setTop (mkF m pc' Ls (.long z :: st)))) : own_Go p e below Fe Q (T.setTop (mkF m pc Ls (.int y :: .long x :: st))) := by
  subst hp; subst hz
  exact own_st (fun _ hr => XS.lushr X.here hx rfl hd rfl hr) k
theorem own_i2l (X : Stand p l e R s m args below meth c T locs cells slots) (hx : p.tables.exec = Jvm.exec) {x : Int32} (pc' : Nat) (hp : pc + 1 = pc') (hd : decode c.code pc = .ok (.i2l, 1)) (z : Int64) (hz : x.toInt64 = z) (k : own_Go p e below Fe Q (T.setTop (mkF m pc' Ls (.long z :: st)))) : own_Go p e below Fe Q (T.setTop (mkF m pc Ls (.int x :: st))) := by
  subst hp; subst hz
  exact own_st (fun _ hr => XS.i2l X.here hx rfl hd rfl hr) k
theorem own_l2i (X : Stand p l e R s m args below meth c T locs cells slots) (hx : p.tables.exec = Jvm.exec) {x : Int64} (pc' : Nat) (hp : pc + 1 = pc') (hd : decode c.code pc = .ok (.l2i, 1)) (z : Int32) (hz : x.toInt32 = z) (k : own_Go p e below Fe Q (T.setTop (mkF m pc' Ls (.int z :: st)))) : own_Go p e below Fe Q (T.setTop (mkF m pc Ls (.long x :: st))) := by
  subst hp; subst hz
  exact own_st (fun _ hr => XS.l2i X.here hx rfl hd rfl hr) k
theorem own_i2b (X : Stand p l e R s m args below meth c T locs cells slots) (hx : p.tables.exec = Jvm.exec) {x : Int32} (pc' : Nat) (hp : pc + 1 = pc') (hd : decode c.code pc = .ok (.i2b, 1)) (z : Int32) (hz : x.toInt8.toInt32 = z) (k : own_Go p e below Fe Q (T.setTop (mkF m pc' Ls (.int z :: st)))) : own_Go p e below Fe Q (T.setTop (mkF m pc Ls (.int x :: st))) := by
  subst hp; subst hz
  exact own_st (fun _ hr => XS.i2b X.here hx rfl hd rfl hr) k
theorem own_i2s (X : Stand p l e R s m args below meth c T locs cells slots) (hx : p.tables.exec = Jvm.exec) {x : Int32} (pc' : Nat) (hp : pc + 1 = pc') (hd : decode c.code pc = .ok (.i2s, 1)) (z : Int32) (hz : x.toInt16.toInt32 = z) (k : own_Go p e below Fe Q (T.setTop (mkF m pc' Ls (.int z :: st)))) : own_Go p e below Fe Q (T.setTop (mkF m pc Ls (.int x :: st))) := by
  subst hp; subst hz
  exact own_st (fun _ hr => XS.i2s X.here hx rfl hd rfl hr) k
theorem own_i2c (X : Stand p l e R s m args below meth c T locs cells slots) (hx : p.tables.exec = Jvm.exec) {x : Int32} (pc' : Nat) (hp : pc + 1 = pc') (hd : decode c.code pc = .ok (.i2c, 1)) (z : Int32) (hz : x.toUInt32.toUInt16.toUInt32.toInt32 = z) (k : own_Go p e below Fe Q (T.setTop (mkF m pc' Ls (.int z :: st)))) : own_Go p e below Fe Q (T.setTop (mkF m pc Ls (.int x :: st))) := by
  subst hp; subst hz
  exact own_st (fun _ hr => XS.i2c X.here hx rfl hd rfl hr) k
theorem own_lcmp (X : Stand p l e R s m args below meth c T locs cells slots) (hx : p.tables.exec = Jvm.exec) {x y : Int64} (pc' : Nat) (hp : pc + 1 = pc') (hd : decode c.code pc = .ok (.lcmp, 1)) (z : Int32) (hz : lcmpW x y = z) (k : own_Go p e below Fe Q (T.setTop (mkF m pc' Ls (.int z :: st)))) : own_Go p e below Fe Q (T.setTop (mkF m pc Ls (.long y :: .long x :: st))) := by
  subst hp; subst hz
  exact own_st (fun _ hr => XS.lcmp X.here hx rfl hd rfl hr) k
theorem own_i2d (X : Stand p l e R s m args below meth c T locs cells slots) (hx : p.tables.exec = Jvm.exec) {x : Int32} (pc' : Nat) (hp : pc + 1 = pc') (hd : decode c.code pc = .ok (.i2d, 1)) (z : UInt64) (hz : FP.i2d x = z) (k : own_Go p e below Fe Q (T.setTop (mkF m pc' Ls (.double z :: st)))) : own_Go p e below Fe Q (T.setTop (mkF m pc Ls (.int x :: st))) := by
  subst hp
  exact own_st (fun _ hr => XS.i2dS X.here hx rfl hd rfl hz hr) k
theorem own_l2d (X : Stand p l e R s m args below meth c T locs cells slots) (hx : p.tables.exec = Jvm.exec) {x : Int64} (pc' : Nat) (hp : pc + 1 = pc') (hd : decode c.code pc = .ok (.l2d, 1)) (z : UInt64) (hz : FP.l2d x = z) (k : own_Go p e below Fe Q (T.setTop (mkF m pc' Ls (.double z :: st)))) : own_Go p e below Fe Q (T.setTop (mkF m pc Ls (.long x :: st))) := by
  subst hp
  exact own_st (fun _ hr => XS.l2dS X.here hx rfl hd rfl hz hr) k
theorem own_d2i (X : Stand p l e R s m args below meth c T locs cells slots) (hx : p.tables.exec = Jvm.exec) {x : UInt64} (pc' : Nat) (hp : pc + 1 = pc') (hd : decode c.code pc = .ok (.d2i, 1)) (z : Int32) (hz : FP.d2i x = z) (k : own_Go p e below Fe Q (T.setTop (mkF m pc' Ls (.int z :: st)))) : own_Go p e below Fe Q (T.setTop (mkF m pc Ls (.double x :: st))) := by
  subst hp
  exact own_st (fun _ hr => XS.d2iS X.here hx rfl hd rfl hz hr) k
theorem own_d2l (X : Stand p l e R s m args below meth c T locs cells slots) (hx : p.tables.exec = Jvm.exec) {x : UInt64} (pc' : Nat) (hp : pc + 1 = pc') (hd : decode c.code pc = .ok (.d2l, 1)) (z : Int64) (hz : FP.d2l x = z) (k : own_Go p e below Fe Q (T.setTop (mkF m pc' Ls (.long z :: st)))) : own_Go p e below Fe Q (T.setTop (mkF m pc Ls (.double x :: st))) := by
  subst hp
  exact own_st (fun _ hr => XS.d2lS X.here hx rfl hd rfl hz hr) k
theorem own_dneg (X : Stand p l e R s m args below meth c T locs cells slots) (hx : p.tables.exec = Jvm.exec) {x : UInt64} (pc' : Nat) (hp : pc + 1 = pc') (hd : decode c.code pc = .ok (.dneg, 1)) (z : UInt64) (hz : FP.dneg x = z) (k : own_Go p e below Fe Q (T.setTop (mkF m pc' Ls (.double z :: st)))) : own_Go p e below Fe Q (T.setTop (mkF m pc Ls (.double x :: st))) := by
  subst hp
  exact own_st (fun _ hr => XS.dnegS X.here hx rfl hd rfl hz hr) k
theorem own_dadd (X : Stand p l e R s m args below meth c T locs cells slots) (hx : p.tables.exec = Jvm.exec) {x y : UInt64} (pc' : Nat) (hp : pc + 1 = pc') (hd : decode c.code pc = .ok (.dadd, 1)) (hn : NoNaN64 (FP.dadd x y)) (z : UInt64) (hz : FP.dadd x y = z) (k : own_Go p e below Fe Q (T.setTop (mkF m pc' Ls (.double z :: st)))) : own_Go p e below Fe Q (T.setTop (mkF m pc Ls (.double y :: .double x :: st))) := by
  subst hp
  exact own_st (fun _ hr => XS.daddS X.here hx rfl hd rfl hn hz hr) k
theorem own_dsub (X : Stand p l e R s m args below meth c T locs cells slots) (hx : p.tables.exec = Jvm.exec) {x y : UInt64} (pc' : Nat) (hp : pc + 1 = pc') (hd : decode c.code pc = .ok (.dsub, 1)) (hn : NoNaN64 (FP.dsub x y)) (z : UInt64) (hz : FP.dsub x y = z) (k : own_Go p e below Fe Q (T.setTop (mkF m pc' Ls (.double z :: st)))) : own_Go p e below Fe Q (T.setTop (mkF m pc Ls (.double y :: .double x :: st))) := by
  subst hp
  exact own_st (fun _ hr => XS.dsubS X.here hx rfl hd rfl hn hz hr) k
theorem own_dmul (X : Stand p l e R s m args below meth c T locs cells slots) (hx : p.tables.exec = Jvm.exec) {x y : UInt64} (pc' : Nat) (hp : pc + 1 = pc') (hd : decode c.code pc = .ok (.dmul, 1)) (hn : NoNaN64 (FP.dmul x y)) (z : UInt64) (hz : FP.dmul x y = z) (k : own_Go p e below Fe Q (T.setTop (mkF m pc' Ls (.double z :: st)))) : own_Go p e below Fe Q (T.setTop (mkF m pc Ls (.double y :: .double x :: st))) := by
  subst hp
  exact own_st (fun _ hr => XS.dmulS X.here hx rfl hd rfl hn hz hr) k
theorem own_ddiv (X : Stand p l e R s m args below meth c T locs cells slots) (hx : p.tables.exec = Jvm.exec) {x y : UInt64} (pc' : Nat) (hp : pc + 1 = pc') (hd : decode c.code pc = .ok (.ddiv, 1)) (hn : NoNaN64 (FP.ddiv x y)) (z : UInt64) (hz : FP.ddiv x y = z) (k : own_Go p e below Fe Q (T.setTop (mkF m pc' Ls (.double z :: st)))) : own_Go p e below Fe Q (T.setTop (mkF m pc Ls (.double y :: .double x :: st))) := by
  subst hp
  exact own_st (fun _ hr => XS.ddivS X.here hx rfl hd rfl hn hz hr) k
theorem own_dcmp (X : Stand p l e R s m args below meth c T locs cells slots) (hx : p.tables.exec = Jvm.exec) {o : CmpOp} {x y : UInt64} (pc' : Nat) (hp : pc + 1 = pc') (hd : decode c.code pc = .ok (.dcmp o, 1)) (z : Int32) (hz : cmpValue (FP.dcmp x y) o = z) (k : own_Go p e below Fe Q (T.setTop (mkF m pc' Ls (.int z :: st)))) : own_Go p e below Fe Q (T.setTop (mkF m pc Ls (.double y :: .double x :: st))) := by
  subst hp
  exact own_st (fun _ hr => XS.dcmpS X.here hx rfl hd rfl hz hr) k
theorem own_iinc (X : Stand p l e R s m args below meth c T locs cells slots) (hx : p.tables.exec = Jvm.exec) {i : Nat} {cst : Int} {x : Int32} (pc' : Nat) (hp : pc + 3 = pc') (hd : decode c.code pc = .ok (.iinc i cst, 3)) (hl : Ls[i]? = some (.val (.int x))) (Ls' : Array Slot) (hl' : storeLocals Ls i (.int (x + Int32.ofInt cst)) = some Ls') (k : own_Go p e below Fe Q (T.setTop (mkF m pc' Ls' (st)))) : own_Go p e below Fe Q (T.setTop (mkF m pc Ls (st))) := by
  subst hp
  exact own_st (fun _ hr => XS.iinc X.here hx rfl hd hl hl' hr) k
theorem own_dup (X : Stand p l e R s m args below meth c T locs cells slots) (hx : p.tables.exec = Jvm.exec) {x : Value} (pc' : Nat) (hp : pc + 1 = pc') (hd : decode c.code pc = .ok (.dup, 1)) (hc : x.category = 1) (k : own_Go p e below Fe Q (T.setTop (mkF m pc' Ls (x :: x :: st)))) : own_Go p e below Fe Q (T.setTop (mkF m pc Ls (x :: st))) := by
  subst hp
  exact own_st (fun _ hr => XS.dup X.here hx rfl hd rfl hc hr) k
theorem own_dupX1 (X : Stand p l e R s m args below meth c T locs cells slots) (hx : p.tables.exec = Jvm.exec) {x y : Value} (pc' : Nat) (hp : pc + 1 = pc') (hd : decode c.code pc = .ok (.dup_x1, 1)) (hc : x.category = 1) (hc' : y.category = 1) (k : own_Go p e below Fe Q (T.setTop (mkF m pc' Ls (x :: y :: x :: st)))) : own_Go p e below Fe Q (T.setTop (mkF m pc Ls (x :: y :: st))) := by
  subst hp
  exact own_st (fun _ hr => XS.dupX1 X.here hx rfl hd rfl hc hc' hr) k
theorem own_pop (X : Stand p l e R s m args below meth c T locs cells slots) (hx : p.tables.exec = Jvm.exec) {x : Value} (pc' : Nat) (hp : pc + 1 = pc') (hd : decode c.code pc = .ok (.pop, 1)) (hc : x.category = 1) (k : own_Go p e below Fe Q (T.setTop (mkF m pc' Ls (st)))) : own_Go p e below Fe Q (T.setTop (mkF m pc Ls (x :: st))) := by
  subst hp
  exact own_st (fun _ hr => XS.pop X.here hx rfl hd rfl hc hr) k
theorem own_goto (X : Stand p l e R s m args below meth c T locs cells slots) (hx : p.tables.exec = Jvm.exec)  {o : Int} (pc' : Nat) (hd : decode c.code pc = .ok (.goto o, 3))  (ho : 0 ≤ (pc : Int) + o) (hp : ((pc : Int) + o).toNat = pc') (k : own_Go p e below Fe Q (T.setTop (mkF m pc' Ls (st)))) : own_Go p e below Fe Q (T.setTop (mkF m pc Ls (st))) :=
  own_st (fun _ hr => XS.goto X.here hx rfl rfl hd ho hp hr) k
theorem own_ifYes (X : Stand p l e R s m args below meth c T locs cells slots) (hx : p.tables.exec = Jvm.exec) {cd : ClassFile.Cond} {x : Int32} {o : Int} (pc' : Nat) (hd : decode c.code pc = .ok (.ifCond cd o, 3)) (hc : ifCond.holds cd x = true) (ho : 0 ≤ (pc : Int) + o) (hp : ((pc : Int) + o).toNat = pc') (k : own_Go p e below Fe Q (T.setTop (mkF m pc' Ls (st)))) : own_Go p e below Fe Q (T.setTop (mkF m pc Ls (.int x :: st))) :=
  own_st (fun _ hr => XS.ifYes X.here hx rfl rfl hd rfl hc ho hp hr) k
theorem own_icmpYes (X : Stand p l e R s m args below meth c T locs cells slots) (hx : p.tables.exec = Jvm.exec) {cd : ClassFile.Cond} {x y : Int32} {o : Int} (pc' : Nat) (hd : decode c.code pc = .ok (.if_icmp cd o, 3)) (hc : if_icmp.holds cd x y = true) (ho : 0 ≤ (pc : Int) + o) (hp : ((pc : Int) + o).toNat = pc') (k : own_Go p e below Fe Q (T.setTop (mkF m pc' Ls (st)))) : own_Go p e below Fe Q (T.setTop (mkF m pc Ls (.int y :: .int x :: st))) :=
  own_st (fun _ hr => XS.icmpYes X.here hx rfl rfl hd rfl hc ho hp hr) k
theorem own_ifnullYes (X : Stand p l e R s m args below meth c T locs cells slots) (hx : p.tables.exec = Jvm.exec)  {o : Int} (pc' : Nat) (hd : decode c.code pc = .ok (.ifnull o, 3))  (ho : 0 ≤ (pc : Int) + o) (hp : ((pc : Int) + o).toNat = pc') (k : own_Go p e below Fe Q (T.setTop (mkF m pc' Ls (st)))) : own_Go p e below Fe Q (T.setTop (mkF m pc Ls (.null :: st))) :=
  own_st (fun _ hr => XS.ifnullYes X.here hx rfl rfl hd rfl ho hp hr) k
theorem own_ifnonnullYes (X : Stand p l e R s m args below meth c T locs cells slots) (hx : p.tables.exec = Jvm.exec) {b : Addr} {o : Int} (pc' : Nat) (hd : decode c.code pc = .ok (.ifnonnull o, 3))  (ho : 0 ≤ (pc : Int) + o) (hp : ((pc : Int) + o).toNat = pc') (k : own_Go p e below Fe Q (T.setTop (mkF m pc' Ls (st)))) : own_Go p e below Fe Q (T.setTop (mkF m pc Ls (.ref b :: st))) :=
  own_st (fun _ hr => XS.ifnonnullYes X.here hx rfl rfl hd rfl ho hp hr) k
theorem own_ifNo (X : Stand p l e R s m args below meth c T locs cells slots) (hx : p.tables.exec = Jvm.exec) {cd : ClassFile.Cond} {o : Int} {x : Int32} (pc' : Nat) (hp : pc + 3 = pc') (hd : decode c.code pc = .ok (.ifCond cd o, 3)) (hc : ifCond.holds cd x = false) (k : own_Go p e below Fe Q (T.setTop (mkF m pc' Ls (st)))) : own_Go p e below Fe Q (T.setTop (mkF m pc Ls (.int x :: st))) := by
  subst hp
  exact own_st (fun _ hr => XS.ifNo X.here hx rfl hd rfl hc hr) k
theorem own_icmpNo (X : Stand p l e R s m args below meth c T locs cells slots) (hx : p.tables.exec = Jvm.exec) {cd : ClassFile.Cond} {o : Int} {x y : Int32} (pc' : Nat) (hp : pc + 3 = pc') (hd : decode c.code pc = .ok (.if_icmp cd o, 3)) (hc : if_icmp.holds cd x y = false) (k : own_Go p e below Fe Q (T.setTop (mkF m pc' Ls (st)))) : own_Go p e below Fe Q (T.setTop (mkF m pc Ls (.int y :: .int x :: st))) := by
  subst hp
  exact own_st (fun _ hr => XS.icmpNo X.here hx rfl hd rfl hc hr) k
theorem own_ifnullNo (X : Stand p l e R s m args below meth c T locs cells slots) (hx : p.tables.exec = Jvm.exec) {o : Int} {b : Addr} (pc' : Nat) (hp : pc + 3 = pc') (hd : decode c.code pc = .ok (.ifnull o, 3))  (k : own_Go p e below Fe Q (T.setTop (mkF m pc' Ls (st)))) : own_Go p e below Fe Q (T.setTop (mkF m pc Ls (.ref b :: st))) := by
  subst hp
  exact own_st (fun _ hr => XS.ifnullNo X.here hx rfl hd rfl hr) k
theorem own_ifnonnullNo (X : Stand p l e R s m args below meth c T locs cells slots) (hx : p.tables.exec = Jvm.exec) {o : Int} (pc' : Nat) (hp : pc + 3 = pc') (hd : decode c.code pc = .ok (.ifnonnull o, 3))  (k : own_Go p e below Fe Q (T.setTop (mkF m pc' Ls (st)))) : own_Go p e below Fe Q (T.setTop (mkF m pc Ls (.null :: st))) := by
  subst hp
  exact own_st (fun _ hr => XS.ifnonnullNo X.here hx rfl hd rfl hr) k
theorem own_acmp (X : Stand p l e R s m args below meth c T locs cells slots) (hx : p.tables.exec = Jvm.exec) {cd : ACond} {x y : Value} {o : Int} (same : Bool) (pc' : Nat) (hd : decode c.code pc = .ok (.if_acmp cd o, 3)) (h1 : x.isRef = true) (h2 : y.isRef = true) (hq : decide (x = y) = same) (ho : 0 ≤ (pc : Int) + o) (hp : pc' = if acV cd same = true then ((pc : Int) + o).toNat else pc + 3) (k : own_Go p e below Fe Q (T.setTop (mkF m pc' Ls st))) : own_Go p e below Fe Q (T.setTop (mkF m pc Ls (y :: x :: st))) :=
  own_st (fun _ hr => Jvm.RoadKit.acmp (g := mkF m pc Ls (y :: x :: st)) X hx rfl h1 h2 (pc0 := pc) (pc' := pc') (same := same) rfl hd rfl hq ho hp hr) k
theorem own_tsw (X : Stand p l e R s m args below meth c T locs cells slots) (hx : p.tables.exec = Jvm.exec) {dflt low high : Int} {offs : Array Int} {len : Nat} {i : Int32} {o : Int} (pc' : Nat) (hd : decode c.code pc = .ok (.tableswitch dflt low high offs, len)) (hin : ¬ (i.toInt < low ∨ i.toInt > high)) (hoff : offs[(i.toInt - low).toNat]? = some o) (ho : 0 ≤ (pc : Int) + o) (hp : ((pc : Int) + o).toNat = pc') (k : own_Go p e below Fe Q (T.setTop (mkF m pc' Ls st))) : own_Go p e below Fe Q (T.setTop (mkF m pc Ls (.int i :: st))) :=
  own_st (fun _ hr => XS.tswIn X.here hx rfl rfl hd rfl hin hoff ho hp hr) k
theorem own_ldcI (X : Stand p l e R s m args below meth c T locs cells slots) (hx : p.tables.exec = Jvm.exec) (hZ : Z.Warmed39 s.vm) {own : String} {index : Nat} (hown : s.vm.findClass own = some m.cls) {z : Int32} (w : (Jvm.Cond.constant own index z).before a0 Z = true) (pc' : Nat) (hp : pc + 2 = pc') (hd : decode c.code pc = .ok (.ldc index, 2)) (k : own_Go p e below Fe Q (T.setTop (mkF m pc' Ls (.int z :: st)))) : own_Go p e below Fe Q (T.setTop (mkF m pc Ls st)) := by
  subst hp
  exact own_st (X.ldcInt hx hown (mvT hZ w) (g := mkF m pc Ls st) rfl hd) k
theorem own_ldcWI (X : Stand p l e R s m args below meth c T locs cells slots) (hx : p.tables.exec = Jvm.exec) (hZ : Z.Warmed39 s.vm) {own : String} {index : Nat} (hown : s.vm.findClass own = some m.cls) {z : Int32} (w : (Jvm.Cond.constant own index z).before a0 Z = true) (pc' : Nat) (hp : pc + 3 = pc') (hd : decode c.code pc = .ok (.ldc_w index, 3)) (k : own_Go p e below Fe Q (T.setTop (mkF m pc' Ls (.int z :: st)))) : own_Go p e below Fe Q (T.setTop (mkF m pc Ls st)) := by
  subst hp
  exact own_st (X.ldcwInt hx hown (mvT hZ w) (g := mkF m pc Ls st) rfl hd) k
theorem own_ldcJ (X : Stand p l e R s m args below meth c T locs cells slots) (hx : p.tables.exec = Jvm.exec) (hZ : Z.Warmed39 s.vm) {own : String} {index : Nat} (hown : s.vm.findClass own = some m.cls) {z : Int64} (w : (Jvm.Cond.constantLong own index z).before a0 Z = true) (pc' : Nat) (hp : pc + 3 = pc') (hd : decode c.code pc = .ok (.ldc2_w index, 3)) (k : own_Go p e below Fe Q (T.setTop (mkF m pc' Ls (.long z :: st)))) : own_Go p e below Fe Q (T.setTop (mkF m pc Ls st)) := by
  subst hp
  exact own_st (X.ldc2Long hx hown (mvT hZ w) (g := mkF m pc Ls st) rfl hd) k
theorem own_ldcD (X : Stand p l e R s m args below meth c T locs cells slots) (hx : p.tables.exec = Jvm.exec) (hZ : Z.Warmed39 s.vm) {own : String} {index : Nat} (hown : s.vm.findClass own = some m.cls) {z : UInt64} (w : (Jvm.Cond.constantDouble own index z).before a0 Z = true) (pc' : Nat) (hp : pc + 3 = pc') (hd : decode c.code pc = .ok (.ldc2_w index, 3)) (k : own_Go p e below Fe Q (T.setTop (mkF m pc' Ls (.double z :: st)))) : own_Go p e below Fe Q (T.setTop (mkF m pc Ls st)) := by
  subst hp
  exact own_st (X.ldc2DoubleC hx hown (mvT hZ w) (g := mkF m pc Ls st) rfl hd) k
theorem own_getS (X : Stand p l e R s m args below meth c T locs cells slots) (hx : p.tables.exec = Jvm.exec) (hZ : Z.Warmed39 s.vm) {own R0 O n d host : String} {index : Nat} (hown : s.vm.findClass own = some m.cls) (w : (Jvm.Cond.fieldLink own index R0 n d).before a0 Z = true ∨ (Jvm.Cond.fieldLinkNest own index R0 n d host).before a0 Z = true) (via : Via Z R0 O n d) (eT : T.heap = h) {v : Value} (F : Sta Z h O n d v) (pc' : Nat) (hp : pc + 3 = pc') (hd : decode c.code pc = .ok (.getstatic index, 3))
    (k : ∀ T', Stand p l e R s m args below meth c T' locs cells slots → T'.heap = h → own_Go p e below Fe Q (T'.setTop (mkF m pc' Ls (v :: st)))) : own_Go p e below Fe Q (T.setTop (mkF m pc Ls st)) := by
  subst hp
  obtain ⟨T', X', e', st'⟩ := getS2 X hx hZ hown w via eT F (g := mkF m pc Ls st) rfl hd
  exact own_st st' (k T' X' e')
theorem own_getF (X : Stand p l e R s m args below meth c T locs cells slots) (hx : p.tables.exec = Jvm.exec) (hZ : Z.Warmed39 s.vm) {own R0 O n d host : String} {index : Nat} (hown : s.vm.findClass own = some m.cls) (w : (Jvm.Cond.fieldLink own index R0 n d).before a0 Z = true ∨ (Jvm.Cond.fieldLinkNest own index R0 n d host).before a0 Z = true) (via : Via Z R0 O n d) (eT : T.heap = h) {a : Addr} {v : Value} (F : Fld Z h a O n d v) (pc' : Nat) (hp : pc + 3 = pc') (hd : decode c.code pc = .ok (.getfield index, 3))
    (k : ∀ T', Stand p l e R s m args below meth c T' locs cells slots → T'.heap = h → own_Go p e below Fe Q (T'.setTop (mkF m pc' Ls (v :: st)))) : own_Go p e below Fe Q (T.setTop (mkF m pc Ls (.ref a :: st))) := by
  subst hp
  obtain ⟨T', X', e', st'⟩ := getF X hx hZ hown w via eT F (g := mkF m pc Ls (.ref a :: st)) rfl rfl hd
  exact own_st st' (k T' X' e')
theorem own_putF (X : Stand p l e R s m args below meth c T locs cells slots) (hx : p.tables.exec = Jvm.exec) (hZ : Z.Warmed39 s.vm) {own R0 O n d host C : String} {index kk : Nat} {ty : FieldType} (hown : s.vm.findClass own = some m.cls) (w : (Jvm.Cond.fieldLink own index R0 n d).before a0 Z = true ∨ (Jvm.Cond.fieldLinkNest own index R0 n d host).before a0 Z = true) (via : Via Z R0 O n d) (eT : T.heap = h) {a : Addr} {v old : Value} (F : Fld Z h a O n d old) (E : Exa Z h a C)
    (L : (Jvm.Cond.lays C O n d).before a0 Z = true ∨ ((Jvm.Cond.laysFinal C O n d).before a0 Z = true ∧ own = O ∧ meth.name = "<init>")) (wi : (Jvm.Cond.instantiable C kk).before a0 Z = true) (hty : parseFieldDescriptor d = some ty) (hn : narrow ty v = v) (hf : Jvm.fits ty v = true) (pc' : Nat) (hp : pc + 3 = pc') (hd : decode c.code pc = .ok (.putfield index, 3))
    (k : ∀ T' h', Stand p l e R s m args below meth c T' (locs ++ [⟨a, Jvm.RoadKit.slotOf Z O n d⟩]) cells slots → T'.heap = h' → Wr h h' a (Jvm.RoadKit.slotOf Z O n d) v → own_Go p e below Fe Q (T'.setTop (mkF m pc' Ls st))) : own_Go p e below Fe Q (T.setTop (mkF m pc Ls (v :: .ref a :: st))) := by
  subst hp
  obtain ⟨T', h', X', e', W', st'⟩ := putF X hx hZ hown w via eT F E L wi hty hn hf (g := mkF m pc Ls (v :: .ref a :: st)) rfl rfl hd
  exact own_st st' (k T' h' X' e' W')
theorem own_putFN (X : Stand p l e R s m args below meth c T locs cells slots) (hx : p.tables.exec = Jvm.exec) (hZ : Z.Warmed39 s.vm) {own R0 O n d C : String} {index kk : Nat} {ty : FieldType} (hown : s.vm.findClass own = some m.cls) (w : (Jvm.Cond.fieldLink own index R0 n d).before a0 Z = true) (via : Via Z R0 O n d) (eT : T.heap = h) {a : Addr} {v v' old : Value} (F : Fld Z h a O n d old) (E : Exa Z h a C)
    (L : (Jvm.Cond.lays C O n d).before a0 Z = true ∨ ((Jvm.Cond.laysFinal C O n d).before a0 Z = true ∧ own = O ∧ meth.name = "<init>")) (wi : (Jvm.Cond.instantiable C kk).before a0 Z = true) (hty : parseFieldDescriptor d = some ty) (hn : narrow ty v = v') (hf : Jvm.fits ty v' = true) (pc' : Nat) (hp : pc + 3 = pc') (hd : decode c.code pc = .ok (.putfield index, 3))
    (k : ∀ T' h', Stand p l e R s m args below meth c T' (locs ++ [⟨a, Jvm.RoadKit.slotOf Z O n d⟩]) cells slots → T'.heap = h' → Wr h h' a (Jvm.RoadKit.slotOf Z O n d) v' → own_Go p e below Fe Q (T'.setTop (mkF m pc' Ls st))) : own_Go p e below Fe Q (T.setTop (mkF m pc Ls (v :: .ref a :: st))) := by
  subst hp
  obtain ⟨T', h', X', e', W', st'⟩ := putFN X hx hZ hown w via eT F E L wi hty hn hf (g := mkF m pc Ls (v :: .ref a :: st)) rfl rfl hd
  exact own_st st' (k T' h' X' e' W')
theorem own_new (X : Stand p l e R s m args below meth c T locs cells slots) (hx : p.tables.exec = Jvm.exec) (hZ : Z.Warmed39 s.vm) {own C : String} {index n : Nat} (hown : s.vm.findClass own = some m.cls) (w : (Jvm.Cond.classLink own index C).before a0 Z = true) (wi : (Jvm.Cond.instantiable C n).before a0 Z = true) (wz : (Jvm.Cond.initialized C).before a0 Z = true) (eT : T.heap = h) (pc' : Nat) (hp : pc + 3 = pc') (hd : decode c.code pc = .ok (.new index, 3)) (hc : cells + 1 ≤ R.cells) (hl : slots + n ≤ R.slots)
    (k : ∀ T' h' b, b = h.size → Stand p l e R s m args below meth c T' locs (cells + 1) (slots + n) → T'.heap = h' → Ext h h' → Exa Z h' b C → (∀ {O nm d : String} {ty : FieldType}, Laid Z a0 C O nm d → parseFieldDescriptor d = some ty → Fld Z h' b O nm d (defaultValue ty)) → own_Go p e below Fe Q (T'.setTop (mkF m pc' Ls (.ref b :: st)))) : own_Go p e below Fe Q (T.setTop (mkF m pc Ls st)) := by
  subst hp
  obtain ⟨T', h', X', e', E', A', D', -, st'⟩ := newO X hx hZ hown w wi wz eT (g := mkF m pc Ls st) rfl hd hc hl
  exact own_st st' (k T' h' _ rfl X' e' E' A' D')
theorem own_newA (X : Stand p l e R s m args below meth c T locs cells slots) (hx : p.tables.exec = Jvm.exec) (hZ : Z.Warmed39 s.vm) {aty : ArrayType} (w : (Jvm.Cond.arrayClass (newarray.typeOf aty)).before a0 Z = true) (eT : T.heap = h) {n : Int32} (pc' : Nat) (hp : pc + 2 = pc') (hd : decode c.code pc = .ok (.newarray aty, 2)) (hn : ¬ n < 0) (cap : Nat) (hcap : n.toNatClampNeg ≤ cap) (hb : cap * 8 ≤ 536870912) (hc : cells + 1 ≤ R.cells) (hl : slots + cap ≤ R.slots) (ad : String) (had : "[" ++ (newarray.typeOf aty).toString = ad)
    (k : ∀ T' h' cA b, b = h.size → Stand p l e R s m args below meth c T' locs (cells + 1) (slots + cap) → T'.heap = h' → Ext h h' → Arr Z h' b (newA cA (newarray.typeOf aty) n) (newarray.typeOf aty) → Exa Z h' b ad → own_Go p e below Fe Q (T'.setTop (mkF m pc' Ls (.ref b :: st)))) : own_Go p e below Fe Q (T.setTop (mkF m pc Ls (.int n :: st))) := by
  subst hp
  obtain ⟨T', h', cA, X', e', E', A', C', st'⟩ := newPE X hx hZ w eT (g := mkF m pc Ls (.int n :: st)) rfl hd rfl hn hcap hb hc hl had
  exact own_st st' (k T' h' cA _ rfl X' e' E' A' C')
theorem own_stI (X : Stand p l e R s m args below meth c T locs cells slots) (hx : p.tables.exec = Jvm.exec) (hZ : Z.Warmed39 s.vm) (eT : T.heap = h) {a : Addr} {kA : ClassId} {n : Int32} {vs : List Value} {dv : Value} (F : Arv Z h a kA .int n vs dv) {j : Int32} {x : Int32} (hj : ¬ j < 0 ∧ j < n) (i : Nat) (hi : j.toNatClampNeg = i) (hl : i < vs.length) (vs' : List Value) (hvs : vs.set i (.int x) = vs') (pc' : Nat) (hp : pc + 1 = pc') (hd : decode c.code pc = .ok (.iastore, 1))
    (k : ∀ T' h', Stand p l e R s m args below meth c T' (locs ++ [⟨a, j.toNatClampNeg⟩]) cells slots → T'.heap = h' → Wr h h' a j.toNatClampNeg (.int x) → Arv Z h' a kA .int n vs' dv → own_Go p e below Fe Q (T'.setTop (mkF m pc' Ls st))) : own_Go p e below Fe Q (T.setTop (mkF m pc Ls (.int x :: .int j :: .ref a :: st))) := by
  subst hp; subst hvs
  obtain ⟨cl, Ar, q, S, N1, H, G⟩ := F
  have hin := inb_of S hj
  obtain ⟨T', h', X', e', W', st'⟩ := stI X hx hZ eT Ar (j := j) hin (g := mkF m pc Ls (.int x :: .int j :: .ref a :: st)) rfl rfl hd
  exact own_st st' (k T' h' X' e' W' (Arv.set Ar q S N1 H G rfl W' i hi hl))
theorem own_stJ (X : Stand p l e R s m args below meth c T locs cells slots) (hx : p.tables.exec = Jvm.exec) (hZ : Z.Warmed39 s.vm) (eT : T.heap = h) {a : Addr} {kA : ClassId} {n : Int32} {vs : List Value} {dv : Value} (F : Arv Z h a kA .long n vs dv) {j : Int32} {x : Int64} (hj : ¬ j < 0 ∧ j < n) (i : Nat) (hi : j.toNatClampNeg = i) (hl : i < vs.length) (vs' : List Value) (hvs : vs.set i (.long x) = vs') (pc' : Nat) (hp : pc + 1 = pc') (hd : decode c.code pc = .ok (.lastore, 1))
    (k : ∀ T' h', Stand p l e R s m args below meth c T' (locs ++ [⟨a, j.toNatClampNeg⟩]) cells slots → T'.heap = h' → Wr h h' a j.toNatClampNeg (.long x) → Arv Z h' a kA .long n vs' dv → own_Go p e below Fe Q (T'.setTop (mkF m pc' Ls st))) : own_Go p e below Fe Q (T.setTop (mkF m pc Ls (.long x :: .int j :: .ref a :: st))) := by
  subst hp; subst hvs
  obtain ⟨cl, Ar, q, S, N1, H, G⟩ := F
  have hin := inb_of S hj
  obtain ⟨T', h', X', e', W', st'⟩ := stJ X hx hZ eT Ar (j := j) hin (g := mkF m pc Ls (.long x :: .int j :: .ref a :: st)) rfl rfl hd
  exact own_st st' (k T' h' X' e' W' (Arv.set Ar q S N1 H G rfl W' i hi hl))
theorem own_stD (X : Stand p l e R s m args below meth c T locs cells slots) (hx : p.tables.exec = Jvm.exec) (hZ : Z.Warmed39 s.vm) (eT : T.heap = h) {a : Addr} {kA : ClassId} {n : Int32} {vs : List Value} {dv : Value} (F : Arv Z h a kA .double n vs dv) {j : Int32} {x : UInt64} (hj : ¬ j < 0 ∧ j < n) (i : Nat) (hi : j.toNatClampNeg = i) (hl : i < vs.length) (vs' : List Value) (hvs : vs.set i (.double x) = vs') (pc' : Nat) (hp : pc + 1 = pc') (hd : decode c.code pc = .ok (.dastore, 1))
    (k : ∀ T' h', Stand p l e R s m args below meth c T' (locs ++ [⟨a, j.toNatClampNeg⟩]) cells slots → T'.heap = h' → Wr h h' a j.toNatClampNeg (.double x) → Arv Z h' a kA .double n vs' dv → own_Go p e below Fe Q (T'.setTop (mkF m pc' Ls st))) : own_Go p e below Fe Q (T.setTop (mkF m pc Ls (.double x :: .int j :: .ref a :: st))) := by
  subst hp; subst hvs
  obtain ⟨cl, Ar, q, S, N1, H, G⟩ := F
  have hin := inb_of S hj
  obtain ⟨T', h', X', e', W', st'⟩ := stD X hx hZ eT Ar (j := j) hin (g := mkF m pc Ls (.double x :: .int j :: .ref a :: st)) rfl rfl hd
  exact own_st st' (k T' h' X' e' W' (Arv.set Ar q S N1 H G rfl W' i hi hl))
theorem own_stB (X : Stand p l e R s m args below meth c T locs cells slots) (hx : p.tables.exec = Jvm.exec) (hZ : Z.Warmed39 s.vm) (eT : T.heap = h) {a : Addr} {kA : ClassId} {n : Int32} {vs : List Value} {dv : Value} (F : Arv Z h a kA .byte n vs dv) {j : Int32} {x : Int32} (hj : ¬ j < 0 ∧ j < n) (i : Nat) (hi : j.toNatClampNeg = i) (hl : i < vs.length) (vs' : List Value) (hvs : vs.set i (.int x.toInt8.toInt32) = vs') (pc' : Nat) (hp : pc + 1 = pc') (hd : decode c.code pc = .ok (.bastore, 1))
    (k : ∀ T' h', Stand p l e R s m args below meth c T' (locs ++ [⟨a, j.toNatClampNeg⟩]) cells slots → T'.heap = h' → Wr h h' a j.toNatClampNeg (.int x.toInt8.toInt32) → Arv Z h' a kA .byte n vs' dv → own_Go p e below Fe Q (T'.setTop (mkF m pc' Ls st))) : own_Go p e below Fe Q (T.setTop (mkF m pc Ls (.int x :: .int j :: .ref a :: st))) := by
  subst hp; subst hvs
  obtain ⟨cl, Ar, q, S, N1, H, G⟩ := F
  have hin := inb_of S hj
  obtain ⟨T', h', X', e', W', st'⟩ := stB X hx hZ eT Ar (j := j) hin (g := mkF m pc Ls (.int x :: .int j :: .ref a :: st)) rfl rfl hd
  exact own_st st' (k T' h' X' e' W' (Arv.set Ar q S N1 H G (fits_nar_byte x) W' i hi hl))
theorem own_stZ (X : Stand p l e R s m args below meth c T locs cells slots) (hx : p.tables.exec = Jvm.exec) (hZ : Z.Warmed39 s.vm) (eT : T.heap = h) {a : Addr} {kA : ClassId} {n : Int32} {vs : List Value} {dv : Value} (F : Arv Z h a kA .boolean n vs dv) {j : Int32} {x : Int32} (hj : ¬ j < 0 ∧ j < n) (i : Nat) (hi : j.toNatClampNeg = i) (hl : i < vs.length) (vs' : List Value) (hvs : vs.set i (.int (nar .boolean x)) = vs') (pc' : Nat) (hp : pc + 1 = pc') (hd : decode c.code pc = .ok (.bastore, 1))
    (k : ∀ T' h', Stand p l e R s m args below meth c T' (locs ++ [⟨a, j.toNatClampNeg⟩]) cells slots → T'.heap = h' → Wr h h' a j.toNatClampNeg (.int (nar .boolean x)) → Arv Z h' a kA .boolean n vs' dv → own_Go p e below Fe Q (T'.setTop (mkF m pc' Ls st))) : own_Go p e below Fe Q (T.setTop (mkF m pc Ls (.int x :: .int j :: .ref a :: st))) := by
  subst hp; subst hvs
  obtain ⟨cl, Ar, q, S, N1, H, G⟩ := F
  have hin := inb_of S hj
  obtain ⟨T', h', X', e', W', st'⟩ := stZ X hx hZ eT Ar (j := j) hin (g := mkF m pc Ls (.int x :: .int j :: .ref a :: st)) rfl rfl hd
  exact own_st st' (k T' h' X' e' W' (Arv.set Ar q S N1 H G (fits_nar_bool x) W' i hi hl))
theorem own_stC (X : Stand p l e R s m args below meth c T locs cells slots) (hx : p.tables.exec = Jvm.exec) (hZ : Z.Warmed39 s.vm) (eT : T.heap = h) {a : Addr} {kA : ClassId} {n : Int32} {vs : List Value} {dv : Value} (F : Arv Z h a kA .char n vs dv) {j : Int32} {x : Int32} (hj : ¬ j < 0 ∧ j < n) (i : Nat) (hi : j.toNatClampNeg = i) (hl : i < vs.length) (vs' : List Value) (hvs : vs.set i (.int (nar .char x)) = vs') (pc' : Nat) (hp : pc + 1 = pc') (hd : decode c.code pc = .ok (.castore, 1))
    (k : ∀ T' h', Stand p l e R s m args below meth c T' (locs ++ [⟨a, j.toNatClampNeg⟩]) cells slots → T'.heap = h' → Wr h h' a j.toNatClampNeg (.int (nar .char x)) → Arv Z h' a kA .char n vs' dv → own_Go p e below Fe Q (T'.setTop (mkF m pc' Ls st))) : own_Go p e below Fe Q (T.setTop (mkF m pc Ls (.int x :: .int j :: .ref a :: st))) := by
  subst hp; subst hvs
  obtain ⟨cl, Ar, q, S, N1, H, G⟩ := F
  have hin := inb_of S hj
  obtain ⟨T', h', X', e', W', st'⟩ := stC X hx hZ eT Ar (j := j) hin (g := mkF m pc Ls (.int x :: .int j :: .ref a :: st)) rfl rfl hd
  exact own_st st' (k T' h' X' e' W' (Arv.set Ar q S N1 H G (fits_nar_char x) W' i hi hl))
theorem own_ldI (X : Stand p l e R s m args below meth c T locs cells slots) (hx : p.tables.exec = Jvm.exec) (hZ : Z.Warmed39 s.vm) (eT : T.heap = h) {a : Addr} {kA : ClassId} {n : Int32} {vs : List Value} {dv : Value} (F : Arv Z h a kA .int n vs dv) {j : Int32} (hj : ¬ j < 0 ∧ j < n) (x : Int32) (hv : vs.getD j.toNatClampNeg dv = (.int x)) (pc' : Nat) (hp : pc + 1 = pc') (hd : decode c.code pc = .ok (.iaload, 1))
    (k : own_Go p e below Fe Q (T.setTop (mkF m pc' Ls (.int x :: st)))) : own_Go p e below Fe Q (T.setTop (mkF m pc Ls (.int j :: .ref a :: st))) := by
  subst hp
  obtain ⟨cl, Ar, q, S, N1, H, G⟩ := F
  have hin := inb_of S hj
  exact own_st (X.iaload hx (j := j) (v := .int x) (by rw [eT]; exact Ar.1) (State.isArrayOf_alike hZ.alike Ar.2.1) Ar.2.2 hin (Has.at H hin hv) (g := mkF m pc Ls (.int j :: .ref a :: st)) rfl rfl hd) k
theorem own_ldD (X : Stand p l e R s m args below meth c T locs cells slots) (hx : p.tables.exec = Jvm.exec) (hZ : Z.Warmed39 s.vm) (eT : T.heap = h) {a : Addr} {kA : ClassId} {n : Int32} {vs : List Value} {dv : Value} (F : Arv Z h a kA .double n vs dv) {j : Int32} (hj : ¬ j < 0 ∧ j < n) (x : UInt64) (hv : vs.getD j.toNatClampNeg dv = (.double x)) (pc' : Nat) (hp : pc + 1 = pc') (hd : decode c.code pc = .ok (.daload, 1))
    (k : own_Go p e below Fe Q (T.setTop (mkF m pc' Ls (.double x :: st)))) : own_Go p e below Fe Q (T.setTop (mkF m pc Ls (.int j :: .ref a :: st))) := by
  subst hp
  obtain ⟨cl, Ar, q, S, N1, H, G⟩ := F
  have hin := inb_of S hj
  exact own_st (X.daload hx (j := j) (v := .double x) (by rw [eT]; exact Ar.1) (State.isArrayOf_alike hZ.alike Ar.2.1) Ar.2.2 hin (Has.at H hin hv) (g := mkF m pc Ls (.int j :: .ref a :: st)) rfl rfl hd) k
theorem own_ldJ (X : Stand p l e R s m args below meth c T locs cells slots) (hx : p.tables.exec = Jvm.exec) (hZ : Z.Warmed39 s.vm) (eT : T.heap = h) {a : Addr} {kA : ClassId} {n : Int32} {vs : List Value} {dv : Value} (F : Arv Z h a kA .long n vs dv) {j : Int32} (hj : ¬ j < 0 ∧ j < n) (x : Int64) (hv : vs.getD j.toNatClampNeg dv = (.long x)) (pc' : Nat) (hp : pc + 1 = pc') (hd : decode c.code pc = .ok (.laload, 1))
    (k : own_Go p e below Fe Q (T.setTop (mkF m pc' Ls (.long x :: st)))) : own_Go p e below Fe Q (T.setTop (mkF m pc Ls (.int j :: .ref a :: st))) := by
  subst hp
  obtain ⟨cl, Ar, q, S, N1, H, G⟩ := F
  have hin := inb_of S hj
  exact own_st (X.laload hx (j := j) (v := .long x) (by rw [eT]; exact Ar.1) (State.isArrayOf_alike hZ.alike Ar.2.1) Ar.2.2 hin (Has.at H hin hv) (g := mkF m pc Ls (.int j :: .ref a :: st)) rfl rfl hd) k
theorem own_len (X : Stand p l e R s m args below meth c T locs cells slots) (hx : p.tables.exec = Jvm.exec) (hZ : Z.Warmed39 s.vm) (eT : T.heap = h) {a : Addr} {kA : ClassId} {ty : FieldType} {n : Int32} {vs : List Value} {dv : Value} (F : Arv Z h a kA ty n vs dv) (pc' : Nat) (hp : pc + 1 = pc') (hd : decode c.code pc = .ok (.arraylength, 1))
    (k : own_Go p e below Fe Q (T.setTop (mkF m pc' Ls (.int n :: st)))) : own_Go p e below Fe Q (T.setTop (mkF m pc Ls (.ref a :: st))) := by
  subst hp
  obtain ⟨cl, Ar, q, S, N1, H, G⟩ := F
  refine own_st (X.arraylength hx (by rw [eT]; exact Ar.1) (State.isArrayOf_alike hZ.alike Ar.2.1) (g := mkF m pc Ls (.ref a :: st)) rfl rfl hd) ?_
  rw [len_of S N1]
  exact k
theorem own_initO (X : Stand p l e R s m args below meth c T locs cells slots) (hx : p.tables.exec = Jvm.exec) (hZ : Z.Warmed39 s.vm) {own : String} {idx : Nat} (hown : s.vm.findClass own = some m.cls) (w1 : (Jvm.Cond.methodLink own idx Lib.objectInit).before a0 Z = true) (w2 : (Jvm.Cond.instanceMethod Lib.objectInit).before a0 Z = true) (w3 : (Jvm.Cond.code Lib.objectInit ⟨#[0xb1]⟩ 1 none).before a0 Z = true) (eT : T.heap = h) (hsize : Ls.size = c.maxLocals) {a : Addr} (pc' : Nat) (hp : pc + 3 = pc') (hd : decode c.code pc = .ok (.invokespecial idx, 3)) (hf : 1 ≤ R.frames) (W : Nat) (hW : 2 * 0 + (st.map fun v => v.category).sum ≤ W) (hl : W + 12 ≤ R.locals)
    (k : ∀ T', Stand p l e R s m args below meth c T' locs cells slots → T'.heap = h → own_Go p e below Fe Q (T'.setTop (mkF m pc' Ls st))) : own_Go p e below Fe Q (T.setTop (mkF m pc Ls (.ref a :: st))) := by
  subst hp
  obtain ⟨T', X', e', st'⟩ := initO X hx hZ hown w1 w2 w3 eT (g := mkF m pc Ls (.ref a :: st)) rfl hsize rfl hd hf hW hl
  exact own_st st' (k T' X' e')
theorem own_callS (X : Stand p l e R s m args below meth c T locs cells slots) (hx : p.tables.exec = Jvm.exec) (hZ : Z.Warmed39 s.vm) {own : String} {index : Nat} {y : MethodName} (hown : s.vm.findClass own = some m.cls) (w1 : (Jvm.Cond.methodLink own index y).before a0 Z = true) (w2 : (Jvm.Cond.static y).before a0 Z = true) (hy : y.cls ≠ "java/lang/invoke/MethodHandle" ∧ y.cls ≠ "java/lang/invoke/VarHandle") {bytes : ByteArray} {maxL : Nat} {ret : Option FieldType} {rm : Room} {as' : Array Value} {Q' : Option Value → Heap → List Loc → Prop} (hM : MetFree l y (head1 [Jvm.Cond.code y bytes maxL ret] rm) (fun a U => a = as' ∧ Z.Warmed39 U.vm ∧ U.heap = h) (fun _ _ _ _ _ => True) (fun _ U o U' => ∃ v L, o = .returned v ∧ Q' v U'.heap L ∧ FrameEnd U o U' L rm.cells rm.slots)) (wc : (Jvm.Cond.code y bytes maxL ret).before a0 Z = true) (wz : (Jvm.Cond.initialized y.cls).before a0 Z = true) (hfr : rm.frames + 1 ≤ R.frames) (eT : T.heap = h) (hsize : Ls.size = c.maxLocals) (argsL : List Value) {rest : List Value} (W : Nat) (hlo : W + (maxL + 11) + rm.locals ≤ R.locals) (hW : 2 * 0 + (rest.map fun v => v.category).sum ≤ W) (hcells : cells + rm.cells ≤ R.cells) (hslots : slots + rm.slots ≤ R.slots) (hlen : ∀ sig, parseMethodDescriptor y.desc = some sig → argsL.length = sig.parameters.length) (hst : st = argsL.reverse ++ rest) (has : argsL.toArray = as') (pc' : Nat) (hp : pc + 3 = pc') (hd : decode c.code pc = .ok (.invokestatic index, 3))
    (k : ∀ v T' Lc, Stand p l e R s m args below meth c T' (locs ++ Lc) (cells + rm.cells) (slots + rm.slots) → Q' v T'.heap Lc → own_Go p e below Fe Q (T'.setTop (mkF m pc' Ls (v.toList ++ rest)))) : own_Go p e below Fe Q (T.setTop (mkF m pc Ls st)) := by
  subst hp
  obtain ⟨v, _, ⟨T', L', k', n'⟩, -, X', ⟨Lc, hQ, l1, l2, l3⟩, st'⟩ := Jvm.LawKit.callS X hx (y := y) hown (mvT hZ w1) (mvT hZ w2) (mvT hZ wz) (mvT hZ wc) hy (backOf (W := W) hM hZ wc wz hfr hlo) (g := mkF m pc Ls st) rfl hsize (argsL := argsL) (rest := rest) hlen hst hW hd (fun _ _ => ⟨has, eT, hcells, hslots⟩)
  dsimp only [Pt.U, Pt.locs, Pt.cells, Pt.slots] at X' l1 l2 l3 st' hQ
  subst l1 l2 l3
  exact own_st st' (k v T' Lc X' hQ)
theorem own_special (X : Stand p l e R s m args below meth c T locs cells slots) (hx : p.tables.exec = Jvm.exec) (hZ : Z.Warmed39 s.vm) {own : String} {index : Nat} {y : MethodName} (hown : s.vm.findClass own = some m.cls) (hy1 : y.name = "<init>") (w1 : (Jvm.Cond.methodLink own index y).before a0 Z = true) (w2 : (Jvm.Cond.instanceMethod y).before a0 Z = true) {a : Addr} (hy : y.cls ≠ "java/lang/invoke/MethodHandle" ∧ y.cls ≠ "java/lang/invoke/VarHandle") {bytes : ByteArray} {maxL : Nat} {ret : Option FieldType} {rm : Room} {as' : Array Value} {Q' : Option Value → Heap → List Loc → Prop} (hret : ret = none) (hM : MetFree l y (head1 [Jvm.Cond.code y bytes maxL ret] rm) (fun a U => a = as' ∧ Z.Warmed39 U.vm ∧ U.heap = h) (fun _ _ _ _ _ => True) (fun _ U o U' => ∃ v L, o = .returned v ∧ Q' v U'.heap L ∧ FrameEnd U o U' L rm.cells rm.slots)) (wc : (Jvm.Cond.code y bytes maxL ret).before a0 Z = true) (wz : (Jvm.Cond.initialized y.cls).before a0 Z = true) (hfr : rm.frames + 1 ≤ R.frames) (eT : T.heap = h) (hsize : Ls.size = c.maxLocals) (argsL : List Value) {rest : List Value} (W : Nat) (hlo : W + (maxL + 11) + rm.locals ≤ R.locals) (hW : 2 * 0 + (rest.map fun v => v.category).sum ≤ W) (hcells : cells + rm.cells ≤ R.cells) (hslots : slots + rm.slots ≤ R.slots) (hlen : ∀ sig, parseMethodDescriptor y.desc = some sig → argsL.length = sig.parameters.length) (hst : st = argsL.reverse ++ .ref a :: rest) (has : (.ref a :: argsL).toArray = as') (pc' : Nat) (hp : pc + 3 = pc') (hd : decode c.code pc = .ok (.invokespecial index, 3))
    (k : ∀ v T' Lc, Stand p l e R s m args below meth c T' (locs ++ Lc) (cells + rm.cells) (slots + rm.slots) → Q' v T'.heap Lc → own_Go p e below Fe Q (T'.setTop (mkF m pc' Ls (v.toList ++ rest)))) : own_Go p e below Fe Q (T.setTop (mkF m pc Ls st)) := by
  subst hp
  obtain ⟨v, _, ⟨T', L', k', n'⟩, -, X', ⟨Lc, hQ, l1, l2, l3⟩, st'⟩ := X.specialBack hx (y := y) hy1 hown (mvT hZ w1) (mvT hZ w2) (mvT hZ (hret ▸ wc)) hy (backOf (W := W) hM hZ wc wz hfr hlo) (g := mkF m pc Ls st) rfl hsize (Steps.refl _) (a := a) (argsL := argsL) (rest := rest) hlen hst hW hd (fun _ _ => ⟨has, eT, hcells, hslots⟩)
  dsimp only [Pt.U, Pt.locs, Pt.cells, Pt.slots] at X' l1 l2 l3 st' hQ
  subst l1 l2 l3
  exact own_tr st' (k v T' Lc X' hQ)
theorem own_virtual (X : Stand p l e R s m args below meth c T locs cells slots) (hx : p.tables.exec = Jvm.exec) (hZ : Z.Warmed39 s.vm) {own : String} {index : Nat} {C : String} {y z : MethodName} (hown : s.vm.findClass own = some m.cls) (w1 : (Jvm.Cond.methodLink own index y).before a0 Z = true) (w2 : (Jvm.Cond.declares y).before a0 Z = true) (w3 : (Jvm.Cond.selects C y z).before a0 Z = true) (w4 : (Jvm.Cond.instanceMethod z).before a0 Z = true) (hyz : y = z) {a : Addr} (E : Exa Z h a C) (hy : y.cls ≠ "java/lang/invoke/MethodHandle" ∧ y.cls ≠ "java/lang/invoke/VarHandle") {bytes : ByteArray} {maxL : Nat} {ret : Option FieldType} {rm : Room} {as' : Array Value} {Q' : Option Value → Heap → List Loc → Prop} (hM : MetFree l z (head1 [Jvm.Cond.code z bytes maxL ret] rm) (fun a U => a = as' ∧ Z.Warmed39 U.vm ∧ U.heap = h) (fun _ _ _ _ _ => True) (fun _ U o U' => ∃ v L, o = .returned v ∧ Q' v U'.heap L ∧ FrameEnd U o U' L rm.cells rm.slots)) (wc : (Jvm.Cond.code z bytes maxL ret).before a0 Z = true) (wz : (Jvm.Cond.initialized z.cls).before a0 Z = true) (hfr : rm.frames + 1 ≤ R.frames) (eT : T.heap = h) (hsize : Ls.size = c.maxLocals) (argsL : List Value) {rest : List Value} (W : Nat) (hlo : W + (maxL + 11) + rm.locals ≤ R.locals) (hW : 2 * 0 + (rest.map fun v => v.category).sum ≤ W) (hcells : cells + rm.cells ≤ R.cells) (hslots : slots + rm.slots ≤ R.slots) (hlen : ∀ sig, parseMethodDescriptor y.desc = some sig → argsL.length = sig.parameters.length) (hst : st = argsL.reverse ++ .ref a :: rest) (has : (.ref a :: argsL).toArray = as') (pc' : Nat) (hp : pc + 3 = pc') (hd : decode c.code pc = .ok (.invokevirtual index, 3))
    (k : ∀ v T' Lc, Stand p l e R s m args below meth c T' (locs ++ Lc) (cells + rm.cells) (slots + rm.slots) → Q' v T'.heap Lc → own_Go p e below Fe Q (T'.setTop (mkF m pc' Ls (v.toList ++ rest)))) : own_Go p e below Fe Q (T.setTop (mkF m pc Ls st)) := by
  subst hp
  obtain ⟨cB, kB, qa, qb, qc⟩ := isOf hZ eT E
  obtain ⟨v, _, ⟨T', L', k', n'⟩, -, X', ⟨Lc, hQ, l1, l2, l3⟩, st'⟩ := X.virtualBack hx (y := y) (z := z) hown (mvT hZ w1) (mvT hZ w2) (hyz ▸ notFace_of_selects (args := #[]) (mvT hZ (hyz ▸ w3 : (Jvm.Cond.selects C z z).before a0 Z = true))) (mvT hZ w3) (mvT hZ w4) hy (backOf (W := W) hM hZ wc wz hfr hlo) qa qc (g := mkF m pc Ls st) rfl hsize (Steps.refl _) (argsL := argsL) (rest := rest) hlen hst hW hd (fun _ _ => ⟨has, eT, hcells, hslots⟩)
  dsimp only [Pt.U, Pt.locs, Pt.cells, Pt.slots] at X' l1 l2 l3 st' hQ
  subst l1 l2 l3
  exact own_tr st' (k v T' Lc X' hQ)
theorem own_virtualUp (X : Stand p l e R s m args below meth c T locs cells slots) (hx : p.tables.exec = Jvm.exec) (hZ : Z.Warmed39 s.vm) {own : String} {index : Nat} {C owner : String} {x y : MethodName} (hown : s.vm.findClass own = some m.cls) (w1 : (Jvm.Cond.methodLink own index x).before a0 Z = true) (w2 : (Jvm.Cond.sameMethod x.cls owner x.name x.desc).before a0 Z = true) (w2' : (Jvm.Cond.declares ⟨owner, x.name, x.desc⟩).before a0 Z = true) (w3 : (Jvm.Cond.selects C x y).before a0 Z = true) (w4 : (Jvm.Cond.instanceMethod y).before a0 Z = true) {a : Addr} (E : Exa Z h a C) (ho : owner ≠ "java/lang/invoke/MethodHandle" ∧ owner ≠ "java/lang/invoke/VarHandle") {bytes : ByteArray} {maxL : Nat} {ret : Option FieldType} {rm : Room} {as' : Array Value} {Q' : Option Value → Heap → List Loc → Prop} (hM : MetFree l y (head1 [Jvm.Cond.code y bytes maxL ret] rm) (fun a U => a = as' ∧ Z.Warmed39 U.vm ∧ U.heap = h) (fun _ _ _ _ _ => True) (fun _ U o U' => ∃ v L, o = .returned v ∧ Q' v U'.heap L ∧ FrameEnd U o U' L rm.cells rm.slots)) (wc : (Jvm.Cond.code y bytes maxL ret).before a0 Z = true) (wz : (Jvm.Cond.initialized y.cls).before a0 Z = true) (hfr : rm.frames + 1 ≤ R.frames) (eT : T.heap = h) (hsize : Ls.size = c.maxLocals) (argsL : List Value) {rest : List Value} (W : Nat) (hlo : W + (maxL + 11) + rm.locals ≤ R.locals) (hW : 2 * 0 + (rest.map fun v => v.category).sum ≤ W) (hcells : cells + rm.cells ≤ R.cells) (hslots : slots + rm.slots ≤ R.slots) (hlen : ∀ sig, parseMethodDescriptor x.desc = some sig → argsL.length = sig.parameters.length) (hst : st = argsL.reverse ++ .ref a :: rest) (has : (.ref a :: argsL).toArray = as') (pc' : Nat) (hp : pc + 3 = pc') (hd : decode c.code pc = .ok (.invokevirtual index, 3))
    (k : ∀ v T' Lc, Stand p l e R s m args below meth c T' (locs ++ Lc) (cells + rm.cells) (slots + rm.slots) → Q' v T'.heap Lc → own_Go p e below Fe Q (T'.setTop (mkF m pc' Ls (v.toList ++ rest)))) : own_Go p e below Fe Q (T.setTop (mkF m pc Ls st)) := by
  subst hp
  obtain ⟨cB, kB, qa, qb, qc⟩ := isOf hZ eT E
  obtain ⟨v, _, ⟨T', L', k', n'⟩, -, X', ⟨Lc, hQ, l1, l2, l3⟩, st'⟩ := X.virtualBackUp hx (x := x) (y := y) (owner := owner) hown (mvT hZ w1) (mvT hZ w2) (mvT hZ w2') ho (mvT hZ w3) (mvT hZ w4) (backOf (W := W) hM hZ wc wz hfr hlo) qa qc (g := mkF m pc Ls st) rfl hsize (Steps.refl _) (argsL := argsL) (rest := rest) hlen hst hW hd (fun _ _ => ⟨has, eT, hcells, hslots⟩)
  dsimp only [Pt.U, Pt.locs, Pt.cells, Pt.slots] at X' l1 l2 l3 st' hQ
  subst l1 l2 l3
  exact own_tr st' (k v T' Lc X' hQ)
theorem own_private (X : Stand p l e R s m args below meth c T locs cells slots) (hx : p.tables.exec = Jvm.exec) (hZ : Z.Warmed39 s.vm) {own : String} {index : Nat} {y z : MethodName} (hown : s.vm.findClass own = some m.cls) (w1 : (Jvm.Cond.methodLink own index y).before a0 Z = true) (w2 : (Jvm.Cond.instanceMethod y).before a0 Z = true) (hz : z.cls = y.cls) (w3 : (Jvm.Cond.selects z.cls z z).before a0 Z = true) (w4 : (Jvm.Cond.privateMethod y).before a0 Z = true) {a : Addr} (E : Exa Z h a y.cls) (hy : y.cls ≠ "java/lang/invoke/MethodHandle" ∧ y.cls ≠ "java/lang/invoke/VarHandle") {bytes : ByteArray} {maxL : Nat} {ret : Option FieldType} {rm : Room} {as' : Array Value} {Q' : Option Value → Heap → List Loc → Prop} (hM : MetFree l y (head1 [Jvm.Cond.code y bytes maxL ret] rm) (fun a U => a = as' ∧ Z.Warmed39 U.vm ∧ U.heap = h) (fun _ _ _ _ _ => True) (fun _ U o U' => ∃ v L, o = .returned v ∧ Q' v U'.heap L ∧ FrameEnd U o U' L rm.cells rm.slots)) (wc : (Jvm.Cond.code y bytes maxL ret).before a0 Z = true) (wz : (Jvm.Cond.initialized y.cls).before a0 Z = true) (hfr : rm.frames + 1 ≤ R.frames) (eT : T.heap = h) (hsize : Ls.size = c.maxLocals) (argsL : List Value) {rest : List Value} (W : Nat) (hlo : W + (maxL + 11) + rm.locals ≤ R.locals) (hW : 2 * 0 + (rest.map fun v => v.category).sum ≤ W) (hcells : cells + rm.cells ≤ R.cells) (hslots : slots + rm.slots ≤ R.slots) (hlen : ∀ sig, parseMethodDescriptor y.desc = some sig → argsL.length = sig.parameters.length) (hst : st = argsL.reverse ++ .ref a :: rest) (has : (.ref a :: argsL).toArray = as') (pc' : Nat) (hp : pc + 3 = pc') (hd : decode c.code pc = .ok (.invokevirtual index, 3))
    (k : ∀ v T' Lc, Stand p l e R s m args below meth c T' (locs ++ Lc) (cells + rm.cells) (slots + rm.slots) → Q' v T'.heap Lc → own_Go p e below Fe Q (T'.setTop (mkF m pc' Ls (v.toList ++ rest)))) : own_Go p e below Fe Q (T.setTop (mkF m pc Ls st)) := by
  subst hp
  obtain ⟨cq, q1, q2⟩ := E.cell
  have hsel : (Jvm.Cond.selects y.cls y y).before args s = true := by
    obtain ⟨c2, r2, m2, -, -, q3, -, kP, hkP, hkPi⟩ := Cond.selects_spec (mvT hZ w3 : (Jvm.Cond.selects z.cls z z).before args s = true)
    exact selects_self_of_private (hz ▸ findClass_of_methodNamed q3) hkP hkPi (Cond.privateMethod_at (mvP hZ w4 (args := #[]))) (mvT hZ w2) hy
  obtain ⟨v, _, ⟨T', L', k', n'⟩, -, X', ⟨Lc, hQ, l1, l2, l3⟩, st'⟩ := X.privateBack hx (y := y) hown (mvT hZ w1) (mvT hZ w2) hsel (Cond.privateMethod_at (mvP hZ w4 (args := #[]))) (mvT hZ wc) hy (backOf (W := W) hM hZ wc wz hfr hlo) (g := mkF m pc Ls st) rfl hsize (Steps.refl _) (a := a) (by rw [eT]; exact q1) q2 (argsL := argsL) (rest := rest) hlen hst hW hd (fun _ _ => ⟨has, eT, hcells, hslots⟩)
  dsimp only [Pt.U, Pt.locs, Pt.cells, Pt.slots] at X' l1 l2 l3 st' hQ
  subst l1 l2 l3
  exact own_tr st' (k v T' Lc X' hQ)
theorem own_rawbits (X : Stand p l e R s m args below meth c T locs cells slots) (hx : p.tables.exec = Jvm.exec) (hZ : Z.Warmed39 s.vm) {own : String} {index : Nat} (hown : s.vm.findClass own = some m.cls) (w1 : (Jvm.Cond.methodLink own index doubleToRawLongBitsName).before a0 Z = true) (w2 : (Jvm.Cond.native doubleToRawLongBitsName).before a0 Z = true) (w3 : (Jvm.Cond.static doubleToRawLongBitsName).before a0 Z = true) (w4 : (Jvm.Cond.initialized "java/lang/Double").before a0 Z = true) (eT : T.heap = h) (hsize : Ls.size = c.maxLocals) {b : UInt64} (pc' : Nat) (hp : pc + 3 = pc') (hd : decode c.code pc = .ok (.invokestatic index, 3)) (hf : 1 ≤ R.frames) (W : Nat) (hW : 2 * 0 + (st.map fun v => v.category).sum ≤ W) (hl : W + 15 ≤ R.locals)
    (k : ∀ T', Stand p l e R s m args below meth c T' locs cells slots → T'.heap = h → own_Go p e below Fe Q (T'.setTop (mkF m pc' Ls (.long b.toInt64 :: st)))) : own_Go p e below Fe Q (T.setTop (mkF m pc Ls (.double b :: st))) := by
  subst hp
  obtain ⟨vm', X', st'⟩ := X.doubleToRawLongBits hx hown (mvT hZ w1) (mvT hZ w2) (mvT hZ w3) (mvT hZ w4) (g := mkF m pc Ls (.double b :: st)) rfl hsize (rest := st) (b := b) rfl hd hf (Nat.le_trans (Nat.add_le_add_right hW _) hl)
  exact own_st st' (k _ X' eT)
end OwnSteps
theorem own_k_rng (i : Int32) : i &&& (3 : Int32) = 0 ∨ i &&& (3 : Int32) = 1 ∨ i &&& (3 : Int32) = 2 ∨ i &&& (3 : Int32) = 3 := by
  have h0 := c_mask i 3 2 (by decide) (by decide)
  have c0 : ((0 : Int32)).toInt = 0 := by decide
  have c1 : ((1 : Int32)).toInt = 1 := by decide
  have c2 : ((2 : Int32)).toInt = 2 := by decide
  have c3 : ((3 : Int32)).toInt = 3 := by decide
  simp only [← Int32.toInt_inj]
  omega
theorem own_rem_rng (a d : Int32) (ha : 0 ≤ a.toInt) (hd : 1 ≤ d.toInt) : 0 ≤ (a % d).toInt ∧ (a % d).toInt < d.toInt := by
  have h := (c_iremV a d).1 ha (by omega)
  omega
def own_pl (i : Int32) : Int32 := ((i.toUInt32 >>> ((2 : Int32) &&& 31).toUInt32).toInt32) &&& (2147483647 : Int32)
theorem own_pl_nn (i : Int32) : 0 ≤ (own_pl i).toInt := by
  unfold own_pl
  rw [c_mask _ 2147483647 31 (by decide) (by decide)]
  omega
theorem own_rem1 (i : Int32) : own_pl i % (1 : Int32) = 0 := by
  have h := own_rem_rng _ 1 (own_pl_nn i) (by decide)
  have c0 : ((0 : Int32)).toInt = 0 := by decide
  have c1 : ((1 : Int32)).toInt = 1 := by decide
  rw [← Int32.toInt_inj]; omega
theorem own_rem2 (i : Int32) : own_pl i % (2 : Int32) = 0 ∨ own_pl i % (2 : Int32) = 1 := by
  have h := own_rem_rng _ 2 (own_pl_nn i) (by decide)
  have c0 : ((0 : Int32)).toInt = 0 := by decide
  have c1 : ((1 : Int32)).toInt = 1 := by decide
  have c2 : ((2 : Int32)).toInt = 2 := by decide
  simp only [← Int32.toInt_inj]; omega
theorem own_rem3 (i : Int32) : own_pl i % (3 : Int32) = 0 ∨ own_pl i % (3 : Int32) = 1 ∨ own_pl i % (3 : Int32) = 2 := by
  have h := own_rem_rng _ 3 (own_pl_nn i) (by decide)
  have c0 : ((0 : Int32)).toInt = 0 := by decide
  have c1 : ((1 : Int32)).toInt = 1 := by decide
  have c2 : ((2 : Int32)).toInt = 2 := by decide
  have c3 : ((3 : Int32)).toInt = 3 := by decide
  simp only [← Int32.toInt_inj]; omega
theorem own_pn0 : plainName "java/lang/Double" = true := by first | (simp [plainName, overriddenIn]; done) | decide +kernel
theorem own_ef_rm_isnan (m : MethodId) (x : UInt64) : entryFrame m #[(.double x)] 2 = mkF m 0 #[.val (.double x), .second] [] := by first | (simp [entryFrame, mkF, argsToLocals, Value.category]; done) | rfl
def Q_rm_isnan (Z : State) (x : UInt64) (h0 : Heap) (n0 : Nat) (v : Option Value) (h : Heap) (L : List Loc) : Prop := v = some (.int (0 : Int32)) ∧ Fr n0 L ∧ h = h0
theorem own_d17_0 : decode jdk_117_method_6_code 0 = .ok (.dload_n 0, 1) := by decide +kernel
theorem own_d17_1 : decode jdk_117_method_6_code 1 = .ok (.dload_n 0, 1) := by decide +kernel
theorem own_d17_2 : decode jdk_117_method_6_code 2 = .ok (.dcmp .l, 1) := by decide +kernel
theorem own_d17_3 : decode jdk_117_method_6_code 3 = .ok (.ifCond .eq 7, 3) := by decide +kernel
theorem own_d17_10 : decode jdk_117_method_6_code 10 = .ok (.iconst 0, 1) := by decide +kernel
theorem own_d17_11 : decode jdk_117_method_6_code 11 = .ok (.ireturn, 1) := by decide +kernel
set_option maxRecDepth 65536 in
set_option maxHeartbeats 40000000 in
theorem rm_isnan (l : Launch) (Z : State) (a0 : Array Value) (hw : ∀ d ∈ tables_1, d.before a0 Z = true) (ws : List Jvm.Cond) (x : UInt64) (h0 : Heap) (n0 : Nat) (Z0 : n0 ≤ h0.size) (nx : cmpValue (FP.dcmp x x) .l = 0) :
    MetFree l (⟨"java/lang/Double", "isNaN", "(D)Z"⟩ : MethodName) (head1 (Jvm.Cond.code (⟨"java/lang/Double", "isNaN", "(D)Z"⟩ : MethodName) jdk_117_method_6_code 2 (some .boolean) :: ws) ({ frames := 0, cells := 0, slots := 0, locals := 0 } : Room)) (fun aa U => aa = #[(.double x)] ∧ Z.Warmed39 U.vm ∧ U.heap = h0) (fun _ _ _ _ _ => True) (fun _ U ou U' => ∃ v L, ou = .returned v ∧ Q_rm_isnan Z x h0 n0 v U'.heap L ∧ FrameEnd U ou U' L ({ frames := 0, cells := 0, slots := 0, locals := 0 } : Room).cells ({ frames := 0, cells := 0, slots := 0, locals := 0 } : Room).slots) := by
  refine MetFree.of_bodySF (plainFor_of_name own_pn0) hisR ?_
  intro p e s m args below meth c s₁ Bd hml0 hP hK
  obtain ⟨rfl, hZ, hh⟩ := hP
  have hx := Bd.exec
  have hby := Bd.bytes
  have hml : c.maxLocals = 2 := hml0
  have hown : s.vm.findClass "java/lang/Double" = some m.cls := findClass_of_methodNamed Bd.named
  have hnm := (name_of_methodNamed Bd.named Bd.method).1
  have X0 : Stand p l e ({ frames := 0, cells := 0, slots := 0, locals := 0 } : Room) s m #[(.double x)] below meth c s₁ [] 0 0 := Stand.of_body Bd
  have e0 : s₁.heap = h0 := by rw [← hh, Bd.state]; rfl
  have N0 := Fr.nil n0
  show own_Go p e below (fun o u L => FrameEnd s o u L ({ frames := 0, cells := 0, slots := 0, locals := 0 } : Room).cells ({ frames := 0, cells := 0, slots := 0, locals := 0 } : Room).slots) (Q_rm_isnan Z x h0 n0) (s₁.setTop (entryFrame m #[(.double x)] 2))
  rw [own_ef_rm_isnan m x]
  show own_Go _ _ _ _ _ (State.setTop _ (mkF _ 0 #[.val (.double x), .second] []))
  refine own_dloadN X0 hx 1 rfl (hb hby own_d17_0) rfl ?_
  refine own_dloadN X0 hx 2 rfl (hb hby own_d17_1) rfl ?_
  refine own_dcmp X0 hx 3 rfl (hb hby own_d17_2) (0 : Int32) nx ?_
  refine own_ifYes X0 hx 10 (hb hby own_d17_3) (by decide) (by decide) rfl ?_
  refine own_iconst X0 hx 11 rfl (hb hby own_d17_10) (0 : Int32) rfl ?_
  refine own_ret X0 (some (.int (0 : Int32))) (fun h => by rw [Bd.returns] at h; cases h) Bd.notSynchronized (by decide) (by decide) ?_ (fun fs hr => retN X0 hx (t := .boolean) Bd.returns (by simp) (hb hby own_d17_11) hr)
  show Q_rm_isnan Z x h0 n0 _ s₁.heap _
  rw [e0]
  exact ⟨rfl, N0, rfl⟩
theorem own_ef_rm_bits (m : MethodId) (x : UInt64) : entryFrame m #[(.double x)] 2 = mkF m 0 #[.val (.double x), .second] [] := by first | (simp [entryFrame, mkF, argsToLocals, Value.category]; done) | rfl
def Q_rm_bits (Z : State) (x : UInt64) (h0 : Heap) (n0 : Nat) (v : Option Value) (h : Heap) (L : List Loc) : Prop := ∃ z : Int64, v = some (.long z) ∧ Fr n0 L ∧ h = h0
theorem own_d16_0 : decode jdk_117_method_23_code 0 = .ok (.dload_n 0, 1) := by decide +kernel
theorem own_d16_1 : decode jdk_117_method_23_code 1 = .ok (.invokestatic 122, 3) := by decide +kernel
theorem own_pd0 : parseMethodDescriptor "(D)Z" = some ⟨[.double], some .boolean⟩ := by decide +kernel
theorem own_d16_4 : decode jdk_117_method_23_code 4 = .ok (.ifCond .ne 8, 3) := by decide +kernel
theorem own_d16_7 : decode jdk_117_method_23_code 7 = .ok (.dload_n 0, 1) := by decide +kernel
theorem own_d16_8 : decode jdk_117_method_23_code 8 = .ok (.invokestatic 134, 3) := by decide +kernel
theorem own_d16_11 : decode jdk_117_method_23_code 11 = .ok (.lreturn, 1) := by decide +kernel
set_option maxRecDepth 65536 in
set_option maxHeartbeats 40000000 in
theorem rm_bits (l : Launch) (Z : State) (a0 : Array Value) (hw : ∀ d ∈ tables_1, d.before a0 Z = true) (ws : List Jvm.Cond) (x : UInt64) (h0 : Heap) (n0 : Nat) (Z0 : n0 ≤ h0.size) (nx : cmpValue (FP.dcmp x x) .l = 0) :
    MetFree l (⟨"java/lang/Double", "doubleToLongBits", "(D)J"⟩ : MethodName) (head1 (Jvm.Cond.code (⟨"java/lang/Double", "doubleToLongBits", "(D)J"⟩ : MethodName) jdk_117_method_23_code 2 (some .long) :: ws) ({ frames := 1, cells := 0, slots := 0, locals := 15 } : Room)) (fun aa U => aa = #[(.double x)] ∧ Z.Warmed39 U.vm ∧ U.heap = h0) (fun _ _ _ _ _ => True) (fun _ U ou U' => ∃ v L, ou = .returned v ∧ Q_rm_bits Z x h0 n0 v U'.heap L ∧ FrameEnd U ou U' L ({ frames := 1, cells := 0, slots := 0, locals := 15 } : Room).cells ({ frames := 1, cells := 0, slots := 0, locals := 15 } : Room).slots) := by
  refine MetFree.of_bodySF (plainFor_of_name own_pn0) hisR ?_
  intro p e s m args below meth c s₁ Bd hml0 hP hK
  obtain ⟨rfl, hZ, hh⟩ := hP
  have hx := Bd.exec
  have hby := Bd.bytes
  have hml : c.maxLocals = 2 := hml0
  have hown : s.vm.findClass "java/lang/Double" = some m.cls := findClass_of_methodNamed Bd.named
  have hnm := (name_of_methodNamed Bd.named Bd.method).1
  have X0 : Stand p l e ({ frames := 1, cells := 0, slots := 0, locals := 15 } : Room) s m #[(.double x)] below meth c s₁ [] 0 0 := Stand.of_body Bd
  have e0 : s₁.heap = h0 := by rw [← hh, Bd.state]; rfl
  have N0 := Fr.nil n0
  show own_Go p e below (fun o u L => FrameEnd s o u L ({ frames := 1, cells := 0, slots := 0, locals := 15 } : Room).cells ({ frames := 1, cells := 0, slots := 0, locals := 15 } : Room).slots) (Q_rm_bits Z x h0 n0) (s₁.setTop (entryFrame m #[(.double x)] 2))
  rw [own_ef_rm_bits m x]
  show own_Go _ _ _ _ _ (State.setTop _ (mkF _ 0 #[.val (.double x), .second] []))
  refine own_dloadN X0 hx 1 rfl (hb hby own_d16_0) rfl ?_
  refine own_callS X0 hx hZ (y := (⟨"java/lang/Double", "isNaN", "(D)Z"⟩ : MethodName)) hown (own_hw hw 94 rfl) (own_hw hw 95 rfl) (by decide) (rm_isnan l Z a0 hw [] x h0 n0 Z0 nx) (own_hw hw 96 rfl) (own_hw hw 81 rfl) (by decide) e0 (by rw [hml]; rfl) [(.double x)] 0 (by decide) (Nat.le_of_eq rfl) (by decide) (by decide) (lenOf own_pd0 rfl) rfl rfl 4 rfl (hb hby own_d16_1) fun v101 T101 Lc101 X101 hQ101 => ?_
  obtain ⟨rfl, Nq101, e101⟩ := hQ101
  have N102 := Fr.app N0 Nq101
  show own_Go _ _ _ _ _ (State.setTop _ (mkF _ 4 _ [(.int (0 : Int32))]))
  refine own_ifNo X101 hx 7 rfl (hb hby own_d16_4) (by decide) ?_
  refine own_dloadN X101 hx 8 rfl (hb hby own_d16_7) rfl ?_
  refine own_rawbits X101 hx hZ hown (own_hw hw 97 rfl) (own_hw hw 99 rfl) (own_hw hw 98 rfl) (own_hw hw 81 rfl) e101 (by rw [hml]; rfl) 11 rfl (hb hby own_d16_8) (by decide) 0 (Nat.le_of_eq rfl) (by decide) fun T103 X103 e103 => ?_
  refine own_ret X103 (some (.long x.toInt64)) (fun h => by rw [Bd.returns] at h; cases h) Bd.notSynchronized (by decide) (by decide) ?_ (fun fs hr => own_retJ X103 hx Bd.returns (hb hby own_d16_11) hr)
  show Q_rm_bits Z x h0 n0 _ T103.heap _
  rw [e103]
  exact ⟨_, rfl, N102, rfl⟩
theorem own_ef_rm_cmpD (m : MethodId) (x : UInt64) (y : UInt64) : entryFrame m #[(.double x), (.double y)] 8 = mkF m 0 #[.val (.double x), .second, .val (.double y), .second, .unset, .unset, .unset, .unset] [] := by first | (simp [entryFrame, mkF, argsToLocals, Value.category]; done) | rfl
def Q_rm_cmpD (Z : State) (x : UInt64) (y : UInt64) (h0 : Heap) (n0 : Nat) (v : Option Value) (h : Heap) (L : List Loc) : Prop := ∃ z : Int32, v = some (.int z) ∧ Fr n0 L ∧ h = h0
theorem own_d13_0 : decode jdk_117_method_27_code 0 = .ok (.dload_n 0, 1) := by decide +kernel
theorem own_d13_1 : decode jdk_117_method_27_code 1 = .ok (.dload_n 2, 1) := by decide +kernel
theorem own_d13_2 : decode jdk_117_method_27_code 2 = .ok (.dcmp .g, 1) := by decide +kernel
theorem own_d13_3 : decode jdk_117_method_27_code 3 = .ok (.ifCond .ge 5, 3) := by decide +kernel
theorem own_d13_6 : decode jdk_117_method_27_code 6 = .ok (.iconst (-1), 1) := by decide +kernel
theorem own_d13_7 : decode jdk_117_method_27_code 7 = .ok (.ireturn, 1) := by decide +kernel
theorem own_d13_8 : decode jdk_117_method_27_code 8 = .ok (.dload_n 0, 1) := by decide +kernel
theorem own_d13_9 : decode jdk_117_method_27_code 9 = .ok (.dload_n 2, 1) := by decide +kernel
theorem own_d13_10 : decode jdk_117_method_27_code 10 = .ok (.dcmp .l, 1) := by decide +kernel
theorem own_d13_11 : decode jdk_117_method_27_code 11 = .ok (.ifCond .le 5, 3) := by decide +kernel
theorem own_d13_14 : decode jdk_117_method_27_code 14 = .ok (.iconst 1, 1) := by decide +kernel
theorem own_d13_15 : decode jdk_117_method_27_code 15 = .ok (.ireturn, 1) := by decide +kernel
theorem own_d13_16 : decode jdk_117_method_27_code 16 = .ok (.dload_n 0, 1) := by decide +kernel
theorem own_d13_17 : decode jdk_117_method_27_code 17 = .ok (.invokestatic 46, 3) := by decide +kernel
theorem own_pd1 : parseMethodDescriptor "(D)J" = some ⟨[.double], some .long⟩ := by decide +kernel
theorem own_d13_20 : decode jdk_117_method_27_code 20 = .ok (.lstore 4, 2) := by decide +kernel
theorem own_d13_22 : decode jdk_117_method_27_code 22 = .ok (.dload_n 2, 1) := by decide +kernel
theorem own_d13_23 : decode jdk_117_method_27_code 23 = .ok (.invokestatic 46, 3) := by decide +kernel
theorem own_d13_26 : decode jdk_117_method_27_code 26 = .ok (.lstore 6, 2) := by decide +kernel
theorem own_d13_28 : decode jdk_117_method_27_code 28 = .ok (.lload 4, 2) := by decide +kernel
theorem own_d13_30 : decode jdk_117_method_27_code 30 = .ok (.lload 6, 2) := by decide +kernel
theorem own_d13_32 : decode jdk_117_method_27_code 32 = .ok (.lcmp, 1) := by decide +kernel
theorem own_d13_33 : decode jdk_117_method_27_code 33 = .ok (.ifCond .ne 7, 3) := by decide +kernel
theorem own_d13_36 : decode jdk_117_method_27_code 36 = .ok (.iconst 0, 1) := by decide +kernel
theorem own_d13_37 : decode jdk_117_method_27_code 37 = .ok (.goto 16, 3) := by decide +kernel
theorem own_d13_53 : decode jdk_117_method_27_code 53 = .ok (.ireturn, 1) := by decide +kernel
theorem own_d13_40 : decode jdk_117_method_27_code 40 = .ok (.lload 4, 2) := by decide +kernel
theorem own_d13_42 : decode jdk_117_method_27_code 42 = .ok (.lload 6, 2) := by decide +kernel
theorem own_d13_44 : decode jdk_117_method_27_code 44 = .ok (.lcmp, 1) := by decide +kernel
theorem own_d13_45 : decode jdk_117_method_27_code 45 = .ok (.ifCond .ge 7, 3) := by decide +kernel
theorem own_d13_48 : decode jdk_117_method_27_code 48 = .ok (.iconst (-1), 1) := by decide +kernel
theorem own_d13_49 : decode jdk_117_method_27_code 49 = .ok (.goto 4, 3) := by decide +kernel
theorem own_d13_52 : decode jdk_117_method_27_code 52 = .ok (.iconst 1, 1) := by decide +kernel
set_option maxRecDepth 65536 in
set_option maxHeartbeats 40000000 in
theorem rm_cmpD (l : Launch) (Z : State) (a0 : Array Value) (hw : ∀ d ∈ tables_1, d.before a0 Z = true) (ws : List Jvm.Cond) (x : UInt64) (y : UInt64) (h0 : Heap) (n0 : Nat) (Z0 : n0 ≤ h0.size) (nx : cmpValue (FP.dcmp x x) .l = 0) (ny : cmpValue (FP.dcmp y y) .l = 0) :
    MetFree l (⟨"java/lang/Double", "compare", "(DD)I"⟩ : MethodName) (head1 (Jvm.Cond.code (⟨"java/lang/Double", "compare", "(DD)I"⟩ : MethodName) jdk_117_method_27_code 8 (some .int) :: ws) ({ frames := 2, cells := 0, slots := 0, locals := 28 } : Room)) (fun aa U => aa = #[(.double x), (.double y)] ∧ Z.Warmed39 U.vm ∧ U.heap = h0) (fun _ _ _ _ _ => True) (fun _ U ou U' => ∃ v L, ou = .returned v ∧ Q_rm_cmpD Z x y h0 n0 v U'.heap L ∧ FrameEnd U ou U' L ({ frames := 2, cells := 0, slots := 0, locals := 28 } : Room).cells ({ frames := 2, cells := 0, slots := 0, locals := 28 } : Room).slots) := by
  refine MetFree.of_bodySF (plainFor_of_name own_pn0) hisR ?_
  intro p e s m args below meth c s₁ Bd hml0 hP hK
  obtain ⟨rfl, hZ, hh⟩ := hP
  have hx := Bd.exec
  have hby := Bd.bytes
  have hml : c.maxLocals = 8 := hml0
  have hown : s.vm.findClass "java/lang/Double" = some m.cls := findClass_of_methodNamed Bd.named
  have hnm := (name_of_methodNamed Bd.named Bd.method).1
  have X0 : Stand p l e ({ frames := 2, cells := 0, slots := 0, locals := 28 } : Room) s m #[(.double x), (.double y)] below meth c s₁ [] 0 0 := Stand.of_body Bd
  have e0 : s₁.heap = h0 := by rw [← hh, Bd.state]; rfl
  have N0 := Fr.nil n0
  show own_Go p e below (fun o u L => FrameEnd s o u L ({ frames := 2, cells := 0, slots := 0, locals := 28 } : Room).cells ({ frames := 2, cells := 0, slots := 0, locals := 28 } : Room).slots) (Q_rm_cmpD Z x y h0 n0) (s₁.setTop (entryFrame m #[(.double x), (.double y)] 8))
  rw [own_ef_rm_cmpD m x y]
  show own_Go _ _ _ _ _ (State.setTop _ (mkF _ 0 #[.val (.double x), .second, .val (.double y), .second, .unset, .unset, .unset, .unset] []))
  refine own_dloadN X0 hx 1 rfl (hb hby own_d13_0) rfl ?_
  refine own_dloadN X0 hx 2 rfl (hb hby own_d13_1) rfl ?_
  refine own_dcmp X0 hx 3 rfl (hb hby own_d13_2) _ rfl ?_
  by_cases hc104 : (cmpValue (FP.dcmp x y) .g) < (0 : Int32)
  ·
    refine own_ifNo X0 hx 6 rfl (hb hby own_d13_3) ((if0 _ _).trans (tlt hc104).2.1) ?_
    refine own_iconst X0 hx 7 rfl (hb hby own_d13_6) (-1 : Int32) rfl ?_
    refine own_ret X0 (some (.int (-1 : Int32))) (fun h => by rw [Bd.returns] at h; cases h) Bd.notSynchronized (by decide) (by decide) ?_ (fun fs hr => own_retI X0 hx Bd.returns (hb hby own_d13_7) hr)
    show Q_rm_cmpD Z x y h0 n0 _ s₁.heap _
    rw [e0]
    exact ⟨_, rfl, N0, rfl⟩
  ·
    refine own_ifYes X0 hx 8 (hb hby own_d13_3) ((if0 _ _).trans (flt hc104).2.1) (by decide) rfl ?_
    refine own_dloadN X0 hx 9 rfl (hb hby own_d13_8) rfl ?_
    refine own_dloadN X0 hx 10 rfl (hb hby own_d13_9) rfl ?_
    refine own_dcmp X0 hx 11 rfl (hb hby own_d13_10) _ rfl ?_
    by_cases hc105 : (0 : Int32) < (cmpValue (FP.dcmp x y) .l)
    ·
      refine own_ifNo X0 hx 14 rfl (hb hby own_d13_11) ((if0 _ _).trans (tlt hc105).2.2.2) ?_
      refine own_iconst X0 hx 15 rfl (hb hby own_d13_14) (1 : Int32) rfl ?_
      refine own_ret X0 (some (.int (1 : Int32))) (fun h => by rw [Bd.returns] at h; cases h) Bd.notSynchronized (by decide) (by decide) ?_ (fun fs hr => own_retI X0 hx Bd.returns (hb hby own_d13_15) hr)
      show Q_rm_cmpD Z x y h0 n0 _ s₁.heap _
      rw [e0]
      exact ⟨_, rfl, N0, rfl⟩
    ·
      refine own_ifYes X0 hx 16 (hb hby own_d13_11) ((if0 _ _).trans (flt hc105).2.2.2) (by decide) rfl ?_
      refine own_dloadN X0 hx 17 rfl (hb hby own_d13_16) rfl ?_
      refine own_callS X0 hx hZ (y := (⟨"java/lang/Double", "doubleToLongBits", "(D)J"⟩ : MethodName)) hown (own_hw hw 91 rfl) (own_hw hw 92 rfl) (by decide) (rm_bits l Z a0 hw [] x h0 n0 Z0 nx) (own_hw hw 93 rfl) (own_hw hw 81 rfl) (by decide) e0 (by rw [hml]; rfl) [(.double x)] 0 (by decide) (Nat.le_of_eq rfl) (by decide) (by decide) (lenOf own_pd1 rfl) rfl rfl 20 rfl (hb hby own_d13_17) fun v106 T106 Lc106 X106 hQ106 => ?_
      obtain ⟨z106, rfl, Nq106, e106⟩ := hQ106
      have N107 := Fr.app N0 Nq106
      show own_Go _ _ _ _ _ (State.setTop _ (mkF _ 20 _ [(.long z106)]))
      refine own_lstore X106 hx 22 rfl (hb hby own_d13_20) #[.val (.double x), .second, .val (.double y), .second, .val (.long z106), .second, .unset, .unset] rfl ?_
      refine own_dloadN X106 hx 23 rfl (hb hby own_d13_22) rfl ?_
      refine own_callS X106 hx hZ (y := (⟨"java/lang/Double", "doubleToLongBits", "(D)J"⟩ : MethodName)) hown (own_hw hw 91 rfl) (own_hw hw 92 rfl) (by decide) (rm_bits l Z a0 hw [] y h0 n0 Z0 ny) (own_hw hw 93 rfl) (own_hw hw 81 rfl) (by decide) e106 (by rw [hml]; rfl) [(.double y)] 0 (by decide) (Nat.le_of_eq rfl) (by decide) (by decide) (lenOf own_pd1 rfl) rfl rfl 26 rfl (hb hby own_d13_23) fun v108 T108 Lc108 X108 hQ108 => ?_
      obtain ⟨z108, rfl, Nq108, e108⟩ := hQ108
      have N109 := Fr.app N107 Nq108
      show own_Go _ _ _ _ _ (State.setTop _ (mkF _ 26 _ [(.long z108)]))
      refine own_lstore X108 hx 28 rfl (hb hby own_d13_26) #[.val (.double x), .second, .val (.double y), .second, .val (.long z106), .second, .val (.long z108), .second] rfl ?_
      refine own_lload X108 hx 30 rfl (hb hby own_d13_28) rfl ?_
      refine own_lload X108 hx 32 rfl (hb hby own_d13_30) rfl ?_
      refine own_lcmp X108 hx 33 rfl (hb hby own_d13_32) _ rfl ?_
      by_cases hc110 : (lcmpW z106 z108) = (0 : Int32)
      ·
        refine own_ifNo X108 hx 36 rfl (hb hby own_d13_33) ((if0 _ _).trans (teq hc110).2) ?_
        refine own_iconst X108 hx 37 rfl (hb hby own_d13_36) (0 : Int32) rfl ?_
        refine own_goto X108 hx 53 (hb hby own_d13_37) (by decide) rfl ?_
        refine own_ret X108 (some (.int (0 : Int32))) (fun h => by rw [Bd.returns] at h; cases h) Bd.notSynchronized (by decide) (by decide) ?_ (fun fs hr => own_retI X108 hx Bd.returns (hb hby own_d13_53) hr)
        show Q_rm_cmpD Z x y h0 n0 _ T108.heap _
        rw [e108]
        exact ⟨_, rfl, N109, rfl⟩
      ·
        refine own_ifYes X108 hx 40 (hb hby own_d13_33) ((if0 _ _).trans (feq hc110).2) (by decide) rfl ?_
        refine own_lload X108 hx 42 rfl (hb hby own_d13_40) rfl ?_
        refine own_lload X108 hx 44 rfl (hb hby own_d13_42) rfl ?_
        refine own_lcmp X108 hx 45 rfl (hb hby own_d13_44) _ rfl ?_
        by_cases hc111 : (lcmpW z106 z108) < (0 : Int32)
        ·
          refine own_ifNo X108 hx 48 rfl (hb hby own_d13_45) ((if0 _ _).trans (tlt hc111).2.1) ?_
          refine own_iconst X108 hx 49 rfl (hb hby own_d13_48) (-1 : Int32) rfl ?_
          refine own_goto X108 hx 53 (hb hby own_d13_49) (by decide) rfl ?_
          refine own_ret X108 (some (.int (-1 : Int32))) (fun h => by rw [Bd.returns] at h; cases h) Bd.notSynchronized (by decide) (by decide) ?_ (fun fs hr => own_retI X108 hx Bd.returns (hb hby own_d13_53) hr)
          show Q_rm_cmpD Z x y h0 n0 _ T108.heap _
          rw [e108]
          exact ⟨_, rfl, N109, rfl⟩
        ·
          refine own_ifYes X108 hx 52 (hb hby own_d13_45) ((if0 _ _).trans (flt hc111).2.1) (by decide) rfl ?_
          refine own_iconst X108 hx 53 rfl (hb hby own_d13_52) (1 : Int32) rfl ?_
          refine own_ret X108 (some (.int (1 : Int32))) (fun h => by rw [Bd.returns] at h; cases h) Bd.notSynchronized (by decide) (by decide) ?_ (fun fs hr => own_retI X108 hx Bd.returns (hb hby own_d13_53) hr)
          show Q_rm_cmpD Z x y h0 n0 _ T108.heap _
          rw [e108]
          exact ⟨_, rfl, N109, rfl⟩
theorem own_pn1 : plainName "java/lang/Integer" = true := by first | (simp [plainName, overriddenIn]; done) | decide +kernel
theorem own_ef_rm_cmpI (m : MethodId) (x : Int32) (y : Int32) : entryFrame m #[(.int x), (.int y)] 2 = mkF m 0 #[.val (.int x), .val (.int y)] [] := by first | (simp [entryFrame, mkF, argsToLocals, Value.category]; done) | rfl
def Q_rm_cmpI (Z : State) (x : Int32) (y : Int32) (h0 : Heap) (n0 : Nat) (v : Option Value) (h : Heap) (L : List Loc) : Prop := ∃ z : Int32, v = some (.int z) ∧ Fr n0 L ∧ h = h0
theorem own_d18_0 : decode jdk_33_method_40_code 0 = .ok (.iload_n 0, 1) := by decide +kernel
theorem own_d18_1 : decode jdk_33_method_40_code 1 = .ok (.iload_n 1, 1) := by decide +kernel
theorem own_d18_2 : decode jdk_33_method_40_code 2 = .ok (.if_icmp .ge 7, 3) := by decide +kernel
theorem own_d18_5 : decode jdk_33_method_40_code 5 = .ok (.iconst (-1), 1) := by decide +kernel
theorem own_d18_6 : decode jdk_33_method_40_code 6 = .ok (.goto 13, 3) := by decide +kernel
theorem own_d18_19 : decode jdk_33_method_40_code 19 = .ok (.ireturn, 1) := by decide +kernel
theorem own_d18_9 : decode jdk_33_method_40_code 9 = .ok (.iload_n 0, 1) := by decide +kernel
theorem own_d18_10 : decode jdk_33_method_40_code 10 = .ok (.iload_n 1, 1) := by decide +kernel
theorem own_d18_11 : decode jdk_33_method_40_code 11 = .ok (.if_icmp .ne 7, 3) := by decide +kernel
theorem own_d18_14 : decode jdk_33_method_40_code 14 = .ok (.iconst 0, 1) := by decide +kernel
theorem own_d18_15 : decode jdk_33_method_40_code 15 = .ok (.goto 4, 3) := by decide +kernel
theorem own_d18_18 : decode jdk_33_method_40_code 18 = .ok (.iconst 1, 1) := by decide +kernel
set_option maxRecDepth 65536 in
set_option maxHeartbeats 40000000 in
theorem rm_cmpI (l : Launch) (Z : State) (a0 : Array Value) (hw : ∀ d ∈ tables_1, d.before a0 Z = true) (ws : List Jvm.Cond) (x : Int32) (y : Int32) (h0 : Heap) (n0 : Nat) (Z0 : n0 ≤ h0.size)  :
    MetFree l (⟨"java/lang/Integer", "compare", "(II)I"⟩ : MethodName) (head1 (Jvm.Cond.code (⟨"java/lang/Integer", "compare", "(II)I"⟩ : MethodName) jdk_33_method_40_code 2 (some .int) :: ws) ({ frames := 0, cells := 0, slots := 0, locals := 0 } : Room)) (fun aa U => aa = #[(.int x), (.int y)] ∧ Z.Warmed39 U.vm ∧ U.heap = h0) (fun _ _ _ _ _ => True) (fun _ U ou U' => ∃ v L, ou = .returned v ∧ Q_rm_cmpI Z x y h0 n0 v U'.heap L ∧ FrameEnd U ou U' L ({ frames := 0, cells := 0, slots := 0, locals := 0 } : Room).cells ({ frames := 0, cells := 0, slots := 0, locals := 0 } : Room).slots) := by
  refine MetFree.of_bodySF (plainFor_of_name own_pn1) hisR ?_
  intro p e s m args below meth c s₁ Bd hml0 hP hK
  obtain ⟨rfl, hZ, hh⟩ := hP
  have hx := Bd.exec
  have hby := Bd.bytes
  have hml : c.maxLocals = 2 := hml0
  have hown : s.vm.findClass "java/lang/Integer" = some m.cls := findClass_of_methodNamed Bd.named
  have hnm := (name_of_methodNamed Bd.named Bd.method).1
  have X0 : Stand p l e ({ frames := 0, cells := 0, slots := 0, locals := 0 } : Room) s m #[(.int x), (.int y)] below meth c s₁ [] 0 0 := Stand.of_body Bd
  have e0 : s₁.heap = h0 := by rw [← hh, Bd.state]; rfl
  have N0 := Fr.nil n0
  show own_Go p e below (fun o u L => FrameEnd s o u L ({ frames := 0, cells := 0, slots := 0, locals := 0 } : Room).cells ({ frames := 0, cells := 0, slots := 0, locals := 0 } : Room).slots) (Q_rm_cmpI Z x y h0 n0) (s₁.setTop (entryFrame m #[(.int x), (.int y)] 2))
  rw [own_ef_rm_cmpI m x y]
  show own_Go _ _ _ _ _ (State.setTop _ (mkF _ 0 #[.val (.int x), .val (.int y)] []))
  refine own_iloadN X0 hx 1 rfl (hb hby own_d18_0) rfl ?_
  refine own_iloadN X0 hx 2 rfl (hb hby own_d18_1) rfl ?_
  by_cases hc112 : x < y
  ·
    refine own_icmpNo X0 hx 5 rfl (hb hby own_d18_2) (tlt hc112).2.1 ?_
    refine own_iconst X0 hx 6 rfl (hb hby own_d18_5) (-1 : Int32) rfl ?_
    refine own_goto X0 hx 19 (hb hby own_d18_6) (by decide) rfl ?_
    refine own_ret X0 (some (.int (-1 : Int32))) (fun h => by rw [Bd.returns] at h; cases h) Bd.notSynchronized (by decide) (by decide) ?_ (fun fs hr => own_retI X0 hx Bd.returns (hb hby own_d18_19) hr)
    show Q_rm_cmpI Z x y h0 n0 _ s₁.heap _
    rw [e0]
    exact ⟨_, rfl, N0, rfl⟩
  ·
    refine own_icmpYes X0 hx 9 (hb hby own_d18_2) (flt hc112).2.1 (by decide) rfl ?_
    refine own_iloadN X0 hx 10 rfl (hb hby own_d18_9) rfl ?_
    refine own_iloadN X0 hx 11 rfl (hb hby own_d18_10) rfl ?_
    by_cases hc113 : x = y
    ·
      refine own_icmpNo X0 hx 14 rfl (hb hby own_d18_11) (teq hc113).2 ?_
      refine own_iconst X0 hx 15 rfl (hb hby own_d18_14) (0 : Int32) rfl ?_
      refine own_goto X0 hx 19 (hb hby own_d18_15) (by decide) rfl ?_
      refine own_ret X0 (some (.int (0 : Int32))) (fun h => by rw [Bd.returns] at h; cases h) Bd.notSynchronized (by decide) (by decide) ?_ (fun fs hr => own_retI X0 hx Bd.returns (hb hby own_d18_19) hr)
      show Q_rm_cmpI Z x y h0 n0 _ s₁.heap _
      rw [e0]
      exact ⟨_, rfl, N0, rfl⟩
    ·
      refine own_icmpYes X0 hx 18 (hb hby own_d18_11) (feq hc113).2 (by decide) rfl ?_
      refine own_iconst X0 hx 19 rfl (hb hby own_d18_18) (1 : Int32) rfl ?_
      refine own_ret X0 (some (.int (1 : Int32))) (fun h => by rw [Bd.returns] at h; cases h) Bd.notSynchronized (by decide) (by decide) ?_ (fun fs hr => own_retI X0 hx Bd.returns (hb hby own_d18_19) hr)
      show Q_rm_cmpI Z x y h0 n0 _ s₁.heap _
      rw [e0]
      exact ⟨_, rfl, N0, rfl⟩
theorem own_pn2 : plainName "com/example/prizepath/prizepath/Insertions" = true := by first | (simp [plainName, overriddenIn]; done) | decide +kernel
theorem own_ef_rm_rb (m : MethodId) (o : Addr) (i : Int32) (j : Int32) : entryFrame m #[(.ref o), (.int i), (.int j)] 4 = mkF m 0 #[.val (.ref o), .val (.int i), .val (.int j), .unset] [] := by first | (simp [entryFrame, mkF, argsToLocals, Value.category]; done) | rfl
def Q_rm_rb (Z : State) (o : Addr) (i : Int32) (j : Int32) (a1 : Addr) (a2 : Addr) (a3 : Addr) (a4 : Addr) (k1 : ClassId) (k2 : ClassId) (k3 : ClassId) (k4 : ClassId) (v1 : List Value) (v2 : List Value) (v3 : List Value) (v4 : List Value) (xi : UInt64) (xj : UInt64) (ci : Int32) (cj : Int32) (ri : Int32) (rj : Int32) (pi : Int32) (pj : Int32) (h0 : Heap) (n0 : Nat) (v : Option Value) (h : Heap) (L : List Loc) : Prop := ∃ z : Int32, v = some (.int z) ∧ Fr n0 L ∧ h = h0 ∧ (z = 0 ∨ z = 1)
theorem own_d12_0 : decode prog_15_method_8_code 0 = .ok (.aload_n 0, 1) := by decide +kernel
theorem own_d12_1 : decode prog_15_method_8_code 1 = .ok (.getfield 21, 3) := by decide +kernel
theorem own_d12_4 : decode prog_15_method_8_code 4 = .ok (.iload_n 1, 1) := by decide +kernel
theorem own_d12_5 : decode prog_15_method_8_code 5 = .ok (.daload, 1) := by decide +kernel
theorem own_d12_6 : decode prog_15_method_8_code 6 = .ok (.aload_n 0, 1) := by decide +kernel
theorem own_d12_7 : decode prog_15_method_8_code 7 = .ok (.getfield 21, 3) := by decide +kernel
theorem own_d12_10 : decode prog_15_method_8_code 10 = .ok (.iload_n 2, 1) := by decide +kernel
theorem own_d12_11 : decode prog_15_method_8_code 11 = .ok (.daload, 1) := by decide +kernel
theorem own_d12_12 : decode prog_15_method_8_code 12 = .ok (.invokestatic 80, 3) := by decide +kernel
theorem own_pd2 : parseMethodDescriptor "(DD)I" = some ⟨[.double, .double], some .int⟩ := by decide +kernel
theorem own_d12_15 : decode prog_15_method_8_code 15 = .ok (.istore_n 3, 1) := by decide +kernel
theorem own_d12_16 : decode prog_15_method_8_code 16 = .ok (.iload_n 3, 1) := by decide +kernel
theorem own_d12_17 : decode prog_15_method_8_code 17 = .ok (.ifCond .ne 19, 3) := by decide +kernel
theorem own_d12_20 : decode prog_15_method_8_code 20 = .ok (.aload_n 0, 1) := by decide +kernel
theorem own_d12_21 : decode prog_15_method_8_code 21 = .ok (.getfield 11, 3) := by decide +kernel
theorem own_d12_24 : decode prog_15_method_8_code 24 = .ok (.iload_n 1, 1) := by decide +kernel
theorem own_d12_25 : decode prog_15_method_8_code 25 = .ok (.iaload, 1) := by decide +kernel
theorem own_d12_26 : decode prog_15_method_8_code 26 = .ok (.aload_n 0, 1) := by decide +kernel
theorem own_d12_27 : decode prog_15_method_8_code 27 = .ok (.getfield 11, 3) := by decide +kernel
theorem own_d12_30 : decode prog_15_method_8_code 30 = .ok (.iload_n 2, 1) := by decide +kernel
theorem own_d12_31 : decode prog_15_method_8_code 31 = .ok (.iaload, 1) := by decide +kernel
theorem own_d12_32 : decode prog_15_method_8_code 32 = .ok (.invokestatic 86, 3) := by decide +kernel
theorem own_pd3 : parseMethodDescriptor "(II)I" = some ⟨[.int, .int], some .int⟩ := by decide +kernel
theorem own_d12_35 : decode prog_15_method_8_code 35 = .ok (.istore_n 3, 1) := by decide +kernel
theorem own_d12_36 : decode prog_15_method_8_code 36 = .ok (.iload_n 3, 1) := by decide +kernel
theorem own_d12_37 : decode prog_15_method_8_code 37 = .ok (.ifCond .ne 19, 3) := by decide +kernel
theorem own_d12_40 : decode prog_15_method_8_code 40 = .ok (.aload_n 0, 1) := by decide +kernel
theorem own_d12_41 : decode prog_15_method_8_code 41 = .ok (.getfield 15, 3) := by decide +kernel
theorem own_d12_44 : decode prog_15_method_8_code 44 = .ok (.iload_n 1, 1) := by decide +kernel
theorem own_d12_45 : decode prog_15_method_8_code 45 = .ok (.iaload, 1) := by decide +kernel
theorem own_d12_46 : decode prog_15_method_8_code 46 = .ok (.aload_n 0, 1) := by decide +kernel
theorem own_d12_47 : decode prog_15_method_8_code 47 = .ok (.getfield 15, 3) := by decide +kernel
theorem own_d12_50 : decode prog_15_method_8_code 50 = .ok (.iload_n 2, 1) := by decide +kernel
theorem own_d12_51 : decode prog_15_method_8_code 51 = .ok (.iaload, 1) := by decide +kernel
theorem own_d12_52 : decode prog_15_method_8_code 52 = .ok (.invokestatic 86, 3) := by decide +kernel
theorem own_d12_55 : decode prog_15_method_8_code 55 = .ok (.istore_n 3, 1) := by decide +kernel
theorem own_d12_56 : decode prog_15_method_8_code 56 = .ok (.iload_n 3, 1) := by decide +kernel
theorem own_d12_57 : decode prog_15_method_8_code 57 = .ok (.ifCond .ne 19, 3) := by decide +kernel
theorem own_d12_60 : decode prog_15_method_8_code 60 = .ok (.aload_n 0, 1) := by decide +kernel
theorem own_d12_61 : decode prog_15_method_8_code 61 = .ok (.getfield 18, 3) := by decide +kernel
theorem own_d12_64 : decode prog_15_method_8_code 64 = .ok (.iload_n 1, 1) := by decide +kernel
theorem own_d12_65 : decode prog_15_method_8_code 65 = .ok (.iaload, 1) := by decide +kernel
theorem own_d12_66 : decode prog_15_method_8_code 66 = .ok (.aload_n 0, 1) := by decide +kernel
theorem own_d12_67 : decode prog_15_method_8_code 67 = .ok (.getfield 18, 3) := by decide +kernel
theorem own_d12_70 : decode prog_15_method_8_code 70 = .ok (.iload_n 2, 1) := by decide +kernel
theorem own_d12_71 : decode prog_15_method_8_code 71 = .ok (.iaload, 1) := by decide +kernel
theorem own_d12_72 : decode prog_15_method_8_code 72 = .ok (.invokestatic 86, 3) := by decide +kernel
theorem own_d12_75 : decode prog_15_method_8_code 75 = .ok (.istore_n 3, 1) := by decide +kernel
theorem own_d12_76 : decode prog_15_method_8_code 76 = .ok (.iload_n 3, 1) := by decide +kernel
theorem own_d12_77 : decode prog_15_method_8_code 77 = .ok (.ifCond .ge 7, 3) := by decide +kernel
theorem own_d12_80 : decode prog_15_method_8_code 80 = .ok (.iconst 1, 1) := by decide +kernel
theorem own_d12_81 : decode prog_15_method_8_code 81 = .ok (.goto 4, 3) := by decide +kernel
theorem own_d12_85 : decode prog_15_method_8_code 85 = .ok (.ireturn, 1) := by decide +kernel
theorem own_d12_84 : decode prog_15_method_8_code 84 = .ok (.iconst 0, 1) := by decide +kernel
set_option maxRecDepth 65536 in
set_option maxHeartbeats 40000000 in
theorem rm_rb (l : Launch) (Z : State) (a0 : Array Value) (hw : ∀ d ∈ tables_1, d.before a0 Z = true) (ws : List Jvm.Cond) (o : Addr) (i : Int32) (j : Int32) (a1 : Addr) (a2 : Addr) (a3 : Addr) (a4 : Addr) (k1 : ClassId) (k2 : ClassId) (k3 : ClassId) (k4 : ClassId) (v1 : List Value) (v2 : List Value) (v3 : List Value) (v4 : List Value) (xi : UInt64) (xj : UInt64) (ci : Int32) (cj : Int32) (ri : Int32) (rj : Int32) (pi : Int32) (pj : Int32) (h0 : Heap) (n0 : Nat) (Z0 : n0 ≤ h0.size) (F1 : Fld Z h0 o "com/example/prizepath/prizepath/Insertions" "customers" "[I" (.ref a1)) (F2 : Fld Z h0 o "com/example/prizepath/prizepath/Insertions" "routes" "[I" (.ref a2)) (F3 : Fld Z h0 o "com/example/prizepath/prizepath/Insertions" "places" "[I" (.ref a3)) (F4 : Fld Z h0 o "com/example/prizepath/prizepath/Insertions" "ranks" "[D" (.ref a4)) (A1 : Arv Z h0 a1 k1 .int (256 : Int32) v1 (.int (0 : Int32))) (A2 : Arv Z h0 a2 k2 .int (256 : Int32) v2 (.int (0 : Int32))) (A3 : Arv Z h0 a3 k3 .int (256 : Int32) v3 (.int (0 : Int32))) (A4 : Arv Z h0 a4 k4 .double (256 : Int32) v4 (.double (0 : UInt64))) (hi : ¬ i < 0 ∧ i < (256 : Int32)) (hj : ¬ j < 0 ∧ j < (256 : Int32)) (hxi : v4.getD (i).toNatClampNeg (.double (0 : UInt64)) = (.double xi)) (hxj : v4.getD (j).toNatClampNeg (.double (0 : UInt64)) = (.double xj)) (hci : v1.getD (i).toNatClampNeg (.int (0 : Int32)) = (.int ci)) (hcj : v1.getD (j).toNatClampNeg (.int (0 : Int32)) = (.int cj)) (hri : v2.getD (i).toNatClampNeg (.int (0 : Int32)) = (.int ri)) (hrj : v2.getD (j).toNatClampNeg (.int (0 : Int32)) = (.int rj)) (hpi : v3.getD (i).toNatClampNeg (.int (0 : Int32)) = (.int pi)) (hpj : v3.getD (j).toNatClampNeg (.int (0 : Int32)) = (.int pj)) (nxi : cmpValue (FP.dcmp xi xi) .l = 0) (nxj : cmpValue (FP.dcmp xj xj) .l = 0) :
    MetFree l (⟨"com/example/prizepath/prizepath/Insertions", "ranksBefore", "(II)Z"⟩ : MethodName) (head1 (Jvm.Cond.code (⟨"com/example/prizepath/prizepath/Insertions", "ranksBefore", "(II)Z"⟩ : MethodName) prog_15_method_8_code 4 (some .boolean) :: ws) ({ frames := 3, cells := 0, slots := 0, locals := 48 } : Room)) (fun aa U => aa = #[(.ref o), (.int i), (.int j)] ∧ Z.Warmed39 U.vm ∧ U.heap = h0) (fun _ _ _ _ _ => True) (fun _ U ou U' => ∃ v L, ou = .returned v ∧ Q_rm_rb Z o i j a1 a2 a3 a4 k1 k2 k3 k4 v1 v2 v3 v4 xi xj ci cj ri rj pi pj h0 n0 v U'.heap L ∧ FrameEnd U ou U' L ({ frames := 3, cells := 0, slots := 0, locals := 48 } : Room).cells ({ frames := 3, cells := 0, slots := 0, locals := 48 } : Room).slots) := by
  refine MetFree.of_bodySF (plainFor_of_name own_pn2) hisR ?_
  intro p e s m args below meth c s₁ Bd hml0 hP hK
  obtain ⟨rfl, hZ, hh⟩ := hP
  have hx := Bd.exec
  have hby := Bd.bytes
  have hml : c.maxLocals = 4 := hml0
  have hown : s.vm.findClass "com/example/prizepath/prizepath/Insertions" = some m.cls := findClass_of_methodNamed Bd.named
  have hnm := (name_of_methodNamed Bd.named Bd.method).1
  have X0 : Stand p l e ({ frames := 3, cells := 0, slots := 0, locals := 48 } : Room) s m #[(.ref o), (.int i), (.int j)] below meth c s₁ [] 0 0 := Stand.of_body Bd
  have e0 : s₁.heap = h0 := by rw [← hh, Bd.state]; rfl
  have N0 := Fr.nil n0
  show own_Go p e below (fun o u L => FrameEnd s o u L ({ frames := 3, cells := 0, slots := 0, locals := 48 } : Room).cells ({ frames := 3, cells := 0, slots := 0, locals := 48 } : Room).slots) (Q_rm_rb Z o i j a1 a2 a3 a4 k1 k2 k3 k4 v1 v2 v3 v4 xi xj ci cj ri rj pi pj h0 n0) (s₁.setTop (entryFrame m #[(.ref o), (.int i), (.int j)] 4))
  rw [own_ef_rm_rb m o i j]
  show own_Go _ _ _ _ _ (State.setTop _ (mkF _ 0 #[.val (.ref o), .val (.int i), .val (.int j), .unset] []))
  refine own_aloadN X0 hx 1 rfl (hb hby own_d12_0) rfl rfl ?_
  refine own_getF X0 hx hZ (host := "") hown (Or.inl (own_hw hw 17 rfl)) Via.refl e0 F4 4 rfl (hb hby own_d12_1) fun T114 X114 e114 => ?_
  refine own_iloadN X114 hx 5 rfl (hb hby own_d12_4) rfl ?_
  refine own_ldD X114 hx hZ e114 A4 hi xi hxi 6 rfl (hb hby own_d12_5) ?_
  refine own_aloadN X114 hx 7 rfl (hb hby own_d12_6) rfl rfl ?_
  refine own_getF X114 hx hZ (host := "") hown (Or.inl (own_hw hw 17 rfl)) Via.refl e114 F4 10 rfl (hb hby own_d12_7) fun T115 X115 e115 => ?_
  refine own_iloadN X115 hx 11 rfl (hb hby own_d12_10) rfl ?_
  refine own_ldD X115 hx hZ e115 A4 hj xj hxj 12 rfl (hb hby own_d12_11) ?_
  refine own_callS X115 hx hZ (y := (⟨"java/lang/Double", "compare", "(DD)I"⟩ : MethodName)) hown (own_hw hw 79 rfl) (own_hw hw 80 rfl) (by decide) (rm_cmpD l Z a0 hw [] xi xj h0 n0 Z0 nxi nxj) (own_hw hw 82 rfl) (own_hw hw 81 rfl) (by decide) e115 (by rw [hml]; rfl) [(.double xi), (.double xj)] 0 (by decide) (Nat.le_of_eq rfl) (by decide) (by decide) (lenOf own_pd2 rfl) rfl rfl 15 rfl (hb hby own_d12_12) fun v116 T116 Lc116 X116 hQ116 => ?_
  obtain ⟨z116, rfl, Nq116, e116⟩ := hQ116
  have N117 := Fr.app N0 Nq116
  show own_Go _ _ _ _ _ (State.setTop _ (mkF _ 15 _ [(.int z116)]))
  refine own_istoreN X116 hx 16 rfl (hb hby own_d12_15) #[.val (.ref o), .val (.int i), .val (.int j), .val (.int z116)] rfl ?_
  refine own_iloadN X116 hx 17 rfl (hb hby own_d12_16) rfl ?_
  by_cases hc118 : z116 = (0 : Int32)
  ·
    refine own_ifNo X116 hx 20 rfl (hb hby own_d12_17) ((if0 _ _).trans (teq hc118).2) ?_
    refine own_aloadN X116 hx 21 rfl (hb hby own_d12_20) rfl rfl ?_
    refine own_getF X116 hx hZ (host := "") hown (Or.inl (own_hw hw 10 rfl)) Via.refl e116 F1 24 rfl (hb hby own_d12_21) fun T119 X119 e119 => ?_
    refine own_iloadN X119 hx 25 rfl (hb hby own_d12_24) rfl ?_
    refine own_ldI X119 hx hZ e119 A1 hi ci hci 26 rfl (hb hby own_d12_25) ?_
    refine own_aloadN X119 hx 27 rfl (hb hby own_d12_26) rfl rfl ?_
    refine own_getF X119 hx hZ (host := "") hown (Or.inl (own_hw hw 10 rfl)) Via.refl e119 F1 30 rfl (hb hby own_d12_27) fun T120 X120 e120 => ?_
    refine own_iloadN X120 hx 31 rfl (hb hby own_d12_30) rfl ?_
    refine own_ldI X120 hx hZ e120 A1 hj cj hcj 32 rfl (hb hby own_d12_31) ?_
    refine own_callS X120 hx hZ (y := (⟨"java/lang/Integer", "compare", "(II)I"⟩ : MethodName)) hown (own_hw hw 100 rfl) (own_hw hw 101 rfl) (by decide) (rm_cmpI l Z a0 hw [] ci cj h0 n0 Z0 ) (own_hw hw 103 rfl) (own_hw hw 102 rfl) (by decide) e120 (by rw [hml]; rfl) [(.int ci), (.int cj)] 0 (by decide) (Nat.le_of_eq rfl) (by decide) (by decide) (lenOf own_pd3 rfl) rfl rfl 35 rfl (hb hby own_d12_32) fun v121 T121 Lc121 X121 hQ121 => ?_
    obtain ⟨z121, rfl, Nq121, e121⟩ := hQ121
    have N122 := Fr.app N117 Nq121
    show own_Go _ _ _ _ _ (State.setTop _ (mkF _ 35 _ [(.int z121)]))
    refine own_istoreN X121 hx 36 rfl (hb hby own_d12_35) #[.val (.ref o), .val (.int i), .val (.int j), .val (.int z121)] rfl ?_
    refine own_iloadN X121 hx 37 rfl (hb hby own_d12_36) rfl ?_
    by_cases hc123 : z121 = (0 : Int32)
    ·
      refine own_ifNo X121 hx 40 rfl (hb hby own_d12_37) ((if0 _ _).trans (teq hc123).2) ?_
      refine own_aloadN X121 hx 41 rfl (hb hby own_d12_40) rfl rfl ?_
      refine own_getF X121 hx hZ (host := "") hown (Or.inl (own_hw hw 12 rfl)) Via.refl e121 F2 44 rfl (hb hby own_d12_41) fun T124 X124 e124 => ?_
      refine own_iloadN X124 hx 45 rfl (hb hby own_d12_44) rfl ?_
      refine own_ldI X124 hx hZ e124 A2 hi ri hri 46 rfl (hb hby own_d12_45) ?_
      refine own_aloadN X124 hx 47 rfl (hb hby own_d12_46) rfl rfl ?_
      refine own_getF X124 hx hZ (host := "") hown (Or.inl (own_hw hw 12 rfl)) Via.refl e124 F2 50 rfl (hb hby own_d12_47) fun T125 X125 e125 => ?_
      refine own_iloadN X125 hx 51 rfl (hb hby own_d12_50) rfl ?_
      refine own_ldI X125 hx hZ e125 A2 hj rj hrj 52 rfl (hb hby own_d12_51) ?_
      refine own_callS X125 hx hZ (y := (⟨"java/lang/Integer", "compare", "(II)I"⟩ : MethodName)) hown (own_hw hw 100 rfl) (own_hw hw 101 rfl) (by decide) (rm_cmpI l Z a0 hw [] ri rj h0 n0 Z0 ) (own_hw hw 103 rfl) (own_hw hw 102 rfl) (by decide) e125 (by rw [hml]; rfl) [(.int ri), (.int rj)] 0 (by decide) (Nat.le_of_eq rfl) (by decide) (by decide) (lenOf own_pd3 rfl) rfl rfl 55 rfl (hb hby own_d12_52) fun v126 T126 Lc126 X126 hQ126 => ?_
      obtain ⟨z126, rfl, Nq126, e126⟩ := hQ126
      have N127 := Fr.app N122 Nq126
      show own_Go _ _ _ _ _ (State.setTop _ (mkF _ 55 _ [(.int z126)]))
      refine own_istoreN X126 hx 56 rfl (hb hby own_d12_55) #[.val (.ref o), .val (.int i), .val (.int j), .val (.int z126)] rfl ?_
      refine own_iloadN X126 hx 57 rfl (hb hby own_d12_56) rfl ?_
      by_cases hc128 : z126 = (0 : Int32)
      ·
        refine own_ifNo X126 hx 60 rfl (hb hby own_d12_57) ((if0 _ _).trans (teq hc128).2) ?_
        refine own_aloadN X126 hx 61 rfl (hb hby own_d12_60) rfl rfl ?_
        refine own_getF X126 hx hZ (host := "") hown (Or.inl (own_hw hw 14 rfl)) Via.refl e126 F3 64 rfl (hb hby own_d12_61) fun T129 X129 e129 => ?_
        refine own_iloadN X129 hx 65 rfl (hb hby own_d12_64) rfl ?_
        refine own_ldI X129 hx hZ e129 A3 hi pi hpi 66 rfl (hb hby own_d12_65) ?_
        refine own_aloadN X129 hx 67 rfl (hb hby own_d12_66) rfl rfl ?_
        refine own_getF X129 hx hZ (host := "") hown (Or.inl (own_hw hw 14 rfl)) Via.refl e129 F3 70 rfl (hb hby own_d12_67) fun T130 X130 e130 => ?_
        refine own_iloadN X130 hx 71 rfl (hb hby own_d12_70) rfl ?_
        refine own_ldI X130 hx hZ e130 A3 hj pj hpj 72 rfl (hb hby own_d12_71) ?_
        refine own_callS X130 hx hZ (y := (⟨"java/lang/Integer", "compare", "(II)I"⟩ : MethodName)) hown (own_hw hw 100 rfl) (own_hw hw 101 rfl) (by decide) (rm_cmpI l Z a0 hw [] pi pj h0 n0 Z0 ) (own_hw hw 103 rfl) (own_hw hw 102 rfl) (by decide) e130 (by rw [hml]; rfl) [(.int pi), (.int pj)] 0 (by decide) (Nat.le_of_eq rfl) (by decide) (by decide) (lenOf own_pd3 rfl) rfl rfl 75 rfl (hb hby own_d12_72) fun v131 T131 Lc131 X131 hQ131 => ?_
        obtain ⟨z131, rfl, Nq131, e131⟩ := hQ131
        have N132 := Fr.app N127 Nq131
        show own_Go _ _ _ _ _ (State.setTop _ (mkF _ 75 _ [(.int z131)]))
        refine own_istoreN X131 hx 76 rfl (hb hby own_d12_75) #[.val (.ref o), .val (.int i), .val (.int j), .val (.int z131)] rfl ?_
        refine own_iloadN X131 hx 77 rfl (hb hby own_d12_76) rfl ?_
        by_cases hc133 : z131 < (0 : Int32)
        ·
          refine own_ifNo X131 hx 80 rfl (hb hby own_d12_77) ((if0 _ _).trans (tlt hc133).2.1) ?_
          refine own_iconst X131 hx 81 rfl (hb hby own_d12_80) (1 : Int32) rfl ?_
          refine own_goto X131 hx 85 (hb hby own_d12_81) (by decide) rfl ?_
          refine own_ret X131 (some (.int (1 : Int32))) (fun h => by rw [Bd.returns] at h; cases h) Bd.notSynchronized (by decide) (by decide) ?_ (fun fs hr => retN X131 hx (t := .boolean) Bd.returns (by simp) (hb hby own_d12_85) hr)
          show Q_rm_rb Z o i j a1 a2 a3 a4 k1 k2 k3 k4 v1 v2 v3 v4 xi xj ci cj ri rj pi pj h0 n0 _ T131.heap _
          rw [e131]
          exact ⟨_, rfl, N132, rfl, by decide⟩
        ·
          refine own_ifYes X131 hx 84 (hb hby own_d12_77) ((if0 _ _).trans (flt hc133).2.1) (by decide) rfl ?_
          refine own_iconst X131 hx 85 rfl (hb hby own_d12_84) (0 : Int32) rfl ?_
          refine own_ret X131 (some (.int (0 : Int32))) (fun h => by rw [Bd.returns] at h; cases h) Bd.notSynchronized (by decide) (by decide) ?_ (fun fs hr => retN X131 hx (t := .boolean) Bd.returns (by simp) (hb hby own_d12_85) hr)
          show Q_rm_rb Z o i j a1 a2 a3 a4 k1 k2 k3 k4 v1 v2 v3 v4 xi xj ci cj ri rj pi pj h0 n0 _ T131.heap _
          rw [e131]
          exact ⟨_, rfl, N132, rfl, by decide⟩
      ·
        refine own_ifYes X126 hx 76 (hb hby own_d12_57) ((if0 _ _).trans (feq hc128).2) (by decide) rfl ?_
        refine own_iloadN X126 hx 77 rfl (hb hby own_d12_76) rfl ?_
        by_cases hc134 : z126 < (0 : Int32)
        ·
          refine own_ifNo X126 hx 80 rfl (hb hby own_d12_77) ((if0 _ _).trans (tlt hc134).2.1) ?_
          refine own_iconst X126 hx 81 rfl (hb hby own_d12_80) (1 : Int32) rfl ?_
          refine own_goto X126 hx 85 (hb hby own_d12_81) (by decide) rfl ?_
          refine own_ret X126 (some (.int (1 : Int32))) (fun h => by rw [Bd.returns] at h; cases h) Bd.notSynchronized (by decide) (by decide) ?_ (fun fs hr => retN X126 hx (t := .boolean) Bd.returns (by simp) (hb hby own_d12_85) hr)
          show Q_rm_rb Z o i j a1 a2 a3 a4 k1 k2 k3 k4 v1 v2 v3 v4 xi xj ci cj ri rj pi pj h0 n0 _ T126.heap _
          rw [e126]
          exact ⟨_, rfl, N127, rfl, by decide⟩
        ·
          refine own_ifYes X126 hx 84 (hb hby own_d12_77) ((if0 _ _).trans (flt hc134).2.1) (by decide) rfl ?_
          refine own_iconst X126 hx 85 rfl (hb hby own_d12_84) (0 : Int32) rfl ?_
          refine own_ret X126 (some (.int (0 : Int32))) (fun h => by rw [Bd.returns] at h; cases h) Bd.notSynchronized (by decide) (by decide) ?_ (fun fs hr => retN X126 hx (t := .boolean) Bd.returns (by simp) (hb hby own_d12_85) hr)
          show Q_rm_rb Z o i j a1 a2 a3 a4 k1 k2 k3 k4 v1 v2 v3 v4 xi xj ci cj ri rj pi pj h0 n0 _ T126.heap _
          rw [e126]
          exact ⟨_, rfl, N127, rfl, by decide⟩
    ·
      refine own_ifYes X121 hx 56 (hb hby own_d12_37) ((if0 _ _).trans (feq hc123).2) (by decide) rfl ?_
      refine own_iloadN X121 hx 57 rfl (hb hby own_d12_56) rfl ?_
      by_cases hc135 : z121 = (0 : Int32)
      ·
        refine own_ifNo X121 hx 60 rfl (hb hby own_d12_57) ((if0 _ _).trans (teq hc135).2) ?_
        refine own_aloadN X121 hx 61 rfl (hb hby own_d12_60) rfl rfl ?_
        refine own_getF X121 hx hZ (host := "") hown (Or.inl (own_hw hw 14 rfl)) Via.refl e121 F3 64 rfl (hb hby own_d12_61) fun T136 X136 e136 => ?_
        refine own_iloadN X136 hx 65 rfl (hb hby own_d12_64) rfl ?_
        refine own_ldI X136 hx hZ e136 A3 hi pi hpi 66 rfl (hb hby own_d12_65) ?_
        refine own_aloadN X136 hx 67 rfl (hb hby own_d12_66) rfl rfl ?_
        refine own_getF X136 hx hZ (host := "") hown (Or.inl (own_hw hw 14 rfl)) Via.refl e136 F3 70 rfl (hb hby own_d12_67) fun T137 X137 e137 => ?_
        refine own_iloadN X137 hx 71 rfl (hb hby own_d12_70) rfl ?_
        refine own_ldI X137 hx hZ e137 A3 hj pj hpj 72 rfl (hb hby own_d12_71) ?_
        refine own_callS X137 hx hZ (y := (⟨"java/lang/Integer", "compare", "(II)I"⟩ : MethodName)) hown (own_hw hw 100 rfl) (own_hw hw 101 rfl) (by decide) (rm_cmpI l Z a0 hw [] pi pj h0 n0 Z0 ) (own_hw hw 103 rfl) (own_hw hw 102 rfl) (by decide) e137 (by rw [hml]; rfl) [(.int pi), (.int pj)] 0 (by decide) (Nat.le_of_eq rfl) (by decide) (by decide) (lenOf own_pd3 rfl) rfl rfl 75 rfl (hb hby own_d12_72) fun v138 T138 Lc138 X138 hQ138 => ?_
        obtain ⟨z138, rfl, Nq138, e138⟩ := hQ138
        have N139 := Fr.app N122 Nq138
        show own_Go _ _ _ _ _ (State.setTop _ (mkF _ 75 _ [(.int z138)]))
        refine own_istoreN X138 hx 76 rfl (hb hby own_d12_75) #[.val (.ref o), .val (.int i), .val (.int j), .val (.int z138)] rfl ?_
        refine own_iloadN X138 hx 77 rfl (hb hby own_d12_76) rfl ?_
        by_cases hc140 : z138 < (0 : Int32)
        ·
          refine own_ifNo X138 hx 80 rfl (hb hby own_d12_77) ((if0 _ _).trans (tlt hc140).2.1) ?_
          refine own_iconst X138 hx 81 rfl (hb hby own_d12_80) (1 : Int32) rfl ?_
          refine own_goto X138 hx 85 (hb hby own_d12_81) (by decide) rfl ?_
          refine own_ret X138 (some (.int (1 : Int32))) (fun h => by rw [Bd.returns] at h; cases h) Bd.notSynchronized (by decide) (by decide) ?_ (fun fs hr => retN X138 hx (t := .boolean) Bd.returns (by simp) (hb hby own_d12_85) hr)
          show Q_rm_rb Z o i j a1 a2 a3 a4 k1 k2 k3 k4 v1 v2 v3 v4 xi xj ci cj ri rj pi pj h0 n0 _ T138.heap _
          rw [e138]
          exact ⟨_, rfl, N139, rfl, by decide⟩
        ·
          refine own_ifYes X138 hx 84 (hb hby own_d12_77) ((if0 _ _).trans (flt hc140).2.1) (by decide) rfl ?_
          refine own_iconst X138 hx 85 rfl (hb hby own_d12_84) (0 : Int32) rfl ?_
          refine own_ret X138 (some (.int (0 : Int32))) (fun h => by rw [Bd.returns] at h; cases h) Bd.notSynchronized (by decide) (by decide) ?_ (fun fs hr => retN X138 hx (t := .boolean) Bd.returns (by simp) (hb hby own_d12_85) hr)
          show Q_rm_rb Z o i j a1 a2 a3 a4 k1 k2 k3 k4 v1 v2 v3 v4 xi xj ci cj ri rj pi pj h0 n0 _ T138.heap _
          rw [e138]
          exact ⟨_, rfl, N139, rfl, by decide⟩
      ·
        refine own_ifYes X121 hx 76 (hb hby own_d12_57) ((if0 _ _).trans (feq hc135).2) (by decide) rfl ?_
        refine own_iloadN X121 hx 77 rfl (hb hby own_d12_76) rfl ?_
        by_cases hc141 : z121 < (0 : Int32)
        ·
          refine own_ifNo X121 hx 80 rfl (hb hby own_d12_77) ((if0 _ _).trans (tlt hc141).2.1) ?_
          refine own_iconst X121 hx 81 rfl (hb hby own_d12_80) (1 : Int32) rfl ?_
          refine own_goto X121 hx 85 (hb hby own_d12_81) (by decide) rfl ?_
          refine own_ret X121 (some (.int (1 : Int32))) (fun h => by rw [Bd.returns] at h; cases h) Bd.notSynchronized (by decide) (by decide) ?_ (fun fs hr => retN X121 hx (t := .boolean) Bd.returns (by simp) (hb hby own_d12_85) hr)
          show Q_rm_rb Z o i j a1 a2 a3 a4 k1 k2 k3 k4 v1 v2 v3 v4 xi xj ci cj ri rj pi pj h0 n0 _ T121.heap _
          rw [e121]
          exact ⟨_, rfl, N122, rfl, by decide⟩
        ·
          refine own_ifYes X121 hx 84 (hb hby own_d12_77) ((if0 _ _).trans (flt hc141).2.1) (by decide) rfl ?_
          refine own_iconst X121 hx 85 rfl (hb hby own_d12_84) (0 : Int32) rfl ?_
          refine own_ret X121 (some (.int (0 : Int32))) (fun h => by rw [Bd.returns] at h; cases h) Bd.notSynchronized (by decide) (by decide) ?_ (fun fs hr => retN X121 hx (t := .boolean) Bd.returns (by simp) (hb hby own_d12_85) hr)
          show Q_rm_rb Z o i j a1 a2 a3 a4 k1 k2 k3 k4 v1 v2 v3 v4 xi xj ci cj ri rj pi pj h0 n0 _ T121.heap _
          rw [e121]
          exact ⟨_, rfl, N122, rfl, by decide⟩
  ·
    refine own_ifYes X116 hx 36 (hb hby own_d12_17) ((if0 _ _).trans (feq hc118).2) (by decide) rfl ?_
    refine own_iloadN X116 hx 37 rfl (hb hby own_d12_36) rfl ?_
    by_cases hc142 : z116 = (0 : Int32)
    ·
      refine own_ifNo X116 hx 40 rfl (hb hby own_d12_37) ((if0 _ _).trans (teq hc142).2) ?_
      refine own_aloadN X116 hx 41 rfl (hb hby own_d12_40) rfl rfl ?_
      refine own_getF X116 hx hZ (host := "") hown (Or.inl (own_hw hw 12 rfl)) Via.refl e116 F2 44 rfl (hb hby own_d12_41) fun T143 X143 e143 => ?_
      refine own_iloadN X143 hx 45 rfl (hb hby own_d12_44) rfl ?_
      refine own_ldI X143 hx hZ e143 A2 hi ri hri 46 rfl (hb hby own_d12_45) ?_
      refine own_aloadN X143 hx 47 rfl (hb hby own_d12_46) rfl rfl ?_
      refine own_getF X143 hx hZ (host := "") hown (Or.inl (own_hw hw 12 rfl)) Via.refl e143 F2 50 rfl (hb hby own_d12_47) fun T144 X144 e144 => ?_
      refine own_iloadN X144 hx 51 rfl (hb hby own_d12_50) rfl ?_
      refine own_ldI X144 hx hZ e144 A2 hj rj hrj 52 rfl (hb hby own_d12_51) ?_
      refine own_callS X144 hx hZ (y := (⟨"java/lang/Integer", "compare", "(II)I"⟩ : MethodName)) hown (own_hw hw 100 rfl) (own_hw hw 101 rfl) (by decide) (rm_cmpI l Z a0 hw [] ri rj h0 n0 Z0 ) (own_hw hw 103 rfl) (own_hw hw 102 rfl) (by decide) e144 (by rw [hml]; rfl) [(.int ri), (.int rj)] 0 (by decide) (Nat.le_of_eq rfl) (by decide) (by decide) (lenOf own_pd3 rfl) rfl rfl 55 rfl (hb hby own_d12_52) fun v145 T145 Lc145 X145 hQ145 => ?_
      obtain ⟨z145, rfl, Nq145, e145⟩ := hQ145
      have N146 := Fr.app N117 Nq145
      show own_Go _ _ _ _ _ (State.setTop _ (mkF _ 55 _ [(.int z145)]))
      refine own_istoreN X145 hx 56 rfl (hb hby own_d12_55) #[.val (.ref o), .val (.int i), .val (.int j), .val (.int z145)] rfl ?_
      refine own_iloadN X145 hx 57 rfl (hb hby own_d12_56) rfl ?_
      by_cases hc147 : z145 = (0 : Int32)
      ·
        refine own_ifNo X145 hx 60 rfl (hb hby own_d12_57) ((if0 _ _).trans (teq hc147).2) ?_
        refine own_aloadN X145 hx 61 rfl (hb hby own_d12_60) rfl rfl ?_
        refine own_getF X145 hx hZ (host := "") hown (Or.inl (own_hw hw 14 rfl)) Via.refl e145 F3 64 rfl (hb hby own_d12_61) fun T148 X148 e148 => ?_
        refine own_iloadN X148 hx 65 rfl (hb hby own_d12_64) rfl ?_
        refine own_ldI X148 hx hZ e148 A3 hi pi hpi 66 rfl (hb hby own_d12_65) ?_
        refine own_aloadN X148 hx 67 rfl (hb hby own_d12_66) rfl rfl ?_
        refine own_getF X148 hx hZ (host := "") hown (Or.inl (own_hw hw 14 rfl)) Via.refl e148 F3 70 rfl (hb hby own_d12_67) fun T149 X149 e149 => ?_
        refine own_iloadN X149 hx 71 rfl (hb hby own_d12_70) rfl ?_
        refine own_ldI X149 hx hZ e149 A3 hj pj hpj 72 rfl (hb hby own_d12_71) ?_
        refine own_callS X149 hx hZ (y := (⟨"java/lang/Integer", "compare", "(II)I"⟩ : MethodName)) hown (own_hw hw 100 rfl) (own_hw hw 101 rfl) (by decide) (rm_cmpI l Z a0 hw [] pi pj h0 n0 Z0 ) (own_hw hw 103 rfl) (own_hw hw 102 rfl) (by decide) e149 (by rw [hml]; rfl) [(.int pi), (.int pj)] 0 (by decide) (Nat.le_of_eq rfl) (by decide) (by decide) (lenOf own_pd3 rfl) rfl rfl 75 rfl (hb hby own_d12_72) fun v150 T150 Lc150 X150 hQ150 => ?_
        obtain ⟨z150, rfl, Nq150, e150⟩ := hQ150
        have N151 := Fr.app N146 Nq150
        show own_Go _ _ _ _ _ (State.setTop _ (mkF _ 75 _ [(.int z150)]))
        refine own_istoreN X150 hx 76 rfl (hb hby own_d12_75) #[.val (.ref o), .val (.int i), .val (.int j), .val (.int z150)] rfl ?_
        refine own_iloadN X150 hx 77 rfl (hb hby own_d12_76) rfl ?_
        by_cases hc152 : z150 < (0 : Int32)
        ·
          refine own_ifNo X150 hx 80 rfl (hb hby own_d12_77) ((if0 _ _).trans (tlt hc152).2.1) ?_
          refine own_iconst X150 hx 81 rfl (hb hby own_d12_80) (1 : Int32) rfl ?_
          refine own_goto X150 hx 85 (hb hby own_d12_81) (by decide) rfl ?_
          refine own_ret X150 (some (.int (1 : Int32))) (fun h => by rw [Bd.returns] at h; cases h) Bd.notSynchronized (by decide) (by decide) ?_ (fun fs hr => retN X150 hx (t := .boolean) Bd.returns (by simp) (hb hby own_d12_85) hr)
          show Q_rm_rb Z o i j a1 a2 a3 a4 k1 k2 k3 k4 v1 v2 v3 v4 xi xj ci cj ri rj pi pj h0 n0 _ T150.heap _
          rw [e150]
          exact ⟨_, rfl, N151, rfl, by decide⟩
        ·
          refine own_ifYes X150 hx 84 (hb hby own_d12_77) ((if0 _ _).trans (flt hc152).2.1) (by decide) rfl ?_
          refine own_iconst X150 hx 85 rfl (hb hby own_d12_84) (0 : Int32) rfl ?_
          refine own_ret X150 (some (.int (0 : Int32))) (fun h => by rw [Bd.returns] at h; cases h) Bd.notSynchronized (by decide) (by decide) ?_ (fun fs hr => retN X150 hx (t := .boolean) Bd.returns (by simp) (hb hby own_d12_85) hr)
          show Q_rm_rb Z o i j a1 a2 a3 a4 k1 k2 k3 k4 v1 v2 v3 v4 xi xj ci cj ri rj pi pj h0 n0 _ T150.heap _
          rw [e150]
          exact ⟨_, rfl, N151, rfl, by decide⟩
      ·
        refine own_ifYes X145 hx 76 (hb hby own_d12_57) ((if0 _ _).trans (feq hc147).2) (by decide) rfl ?_
        refine own_iloadN X145 hx 77 rfl (hb hby own_d12_76) rfl ?_
        by_cases hc153 : z145 < (0 : Int32)
        ·
          refine own_ifNo X145 hx 80 rfl (hb hby own_d12_77) ((if0 _ _).trans (tlt hc153).2.1) ?_
          refine own_iconst X145 hx 81 rfl (hb hby own_d12_80) (1 : Int32) rfl ?_
          refine own_goto X145 hx 85 (hb hby own_d12_81) (by decide) rfl ?_
          refine own_ret X145 (some (.int (1 : Int32))) (fun h => by rw [Bd.returns] at h; cases h) Bd.notSynchronized (by decide) (by decide) ?_ (fun fs hr => retN X145 hx (t := .boolean) Bd.returns (by simp) (hb hby own_d12_85) hr)
          show Q_rm_rb Z o i j a1 a2 a3 a4 k1 k2 k3 k4 v1 v2 v3 v4 xi xj ci cj ri rj pi pj h0 n0 _ T145.heap _
          rw [e145]
          exact ⟨_, rfl, N146, rfl, by decide⟩
        ·
          refine own_ifYes X145 hx 84 (hb hby own_d12_77) ((if0 _ _).trans (flt hc153).2.1) (by decide) rfl ?_
          refine own_iconst X145 hx 85 rfl (hb hby own_d12_84) (0 : Int32) rfl ?_
          refine own_ret X145 (some (.int (0 : Int32))) (fun h => by rw [Bd.returns] at h; cases h) Bd.notSynchronized (by decide) (by decide) ?_ (fun fs hr => retN X145 hx (t := .boolean) Bd.returns (by simp) (hb hby own_d12_85) hr)
          show Q_rm_rb Z o i j a1 a2 a3 a4 k1 k2 k3 k4 v1 v2 v3 v4 xi xj ci cj ri rj pi pj h0 n0 _ T145.heap _
          rw [e145]
          exact ⟨_, rfl, N146, rfl, by decide⟩
    ·
      refine own_ifYes X116 hx 56 (hb hby own_d12_37) ((if0 _ _).trans (feq hc142).2) (by decide) rfl ?_
      refine own_iloadN X116 hx 57 rfl (hb hby own_d12_56) rfl ?_
      by_cases hc154 : z116 = (0 : Int32)
      ·
        refine own_ifNo X116 hx 60 rfl (hb hby own_d12_57) ((if0 _ _).trans (teq hc154).2) ?_
        refine own_aloadN X116 hx 61 rfl (hb hby own_d12_60) rfl rfl ?_
        refine own_getF X116 hx hZ (host := "") hown (Or.inl (own_hw hw 14 rfl)) Via.refl e116 F3 64 rfl (hb hby own_d12_61) fun T155 X155 e155 => ?_
        refine own_iloadN X155 hx 65 rfl (hb hby own_d12_64) rfl ?_
        refine own_ldI X155 hx hZ e155 A3 hi pi hpi 66 rfl (hb hby own_d12_65) ?_
        refine own_aloadN X155 hx 67 rfl (hb hby own_d12_66) rfl rfl ?_
        refine own_getF X155 hx hZ (host := "") hown (Or.inl (own_hw hw 14 rfl)) Via.refl e155 F3 70 rfl (hb hby own_d12_67) fun T156 X156 e156 => ?_
        refine own_iloadN X156 hx 71 rfl (hb hby own_d12_70) rfl ?_
        refine own_ldI X156 hx hZ e156 A3 hj pj hpj 72 rfl (hb hby own_d12_71) ?_
        refine own_callS X156 hx hZ (y := (⟨"java/lang/Integer", "compare", "(II)I"⟩ : MethodName)) hown (own_hw hw 100 rfl) (own_hw hw 101 rfl) (by decide) (rm_cmpI l Z a0 hw [] pi pj h0 n0 Z0 ) (own_hw hw 103 rfl) (own_hw hw 102 rfl) (by decide) e156 (by rw [hml]; rfl) [(.int pi), (.int pj)] 0 (by decide) (Nat.le_of_eq rfl) (by decide) (by decide) (lenOf own_pd3 rfl) rfl rfl 75 rfl (hb hby own_d12_72) fun v157 T157 Lc157 X157 hQ157 => ?_
        obtain ⟨z157, rfl, Nq157, e157⟩ := hQ157
        have N158 := Fr.app N117 Nq157
        show own_Go _ _ _ _ _ (State.setTop _ (mkF _ 75 _ [(.int z157)]))
        refine own_istoreN X157 hx 76 rfl (hb hby own_d12_75) #[.val (.ref o), .val (.int i), .val (.int j), .val (.int z157)] rfl ?_
        refine own_iloadN X157 hx 77 rfl (hb hby own_d12_76) rfl ?_
        by_cases hc159 : z157 < (0 : Int32)
        ·
          refine own_ifNo X157 hx 80 rfl (hb hby own_d12_77) ((if0 _ _).trans (tlt hc159).2.1) ?_
          refine own_iconst X157 hx 81 rfl (hb hby own_d12_80) (1 : Int32) rfl ?_
          refine own_goto X157 hx 85 (hb hby own_d12_81) (by decide) rfl ?_
          refine own_ret X157 (some (.int (1 : Int32))) (fun h => by rw [Bd.returns] at h; cases h) Bd.notSynchronized (by decide) (by decide) ?_ (fun fs hr => retN X157 hx (t := .boolean) Bd.returns (by simp) (hb hby own_d12_85) hr)
          show Q_rm_rb Z o i j a1 a2 a3 a4 k1 k2 k3 k4 v1 v2 v3 v4 xi xj ci cj ri rj pi pj h0 n0 _ T157.heap _
          rw [e157]
          exact ⟨_, rfl, N158, rfl, by decide⟩
        ·
          refine own_ifYes X157 hx 84 (hb hby own_d12_77) ((if0 _ _).trans (flt hc159).2.1) (by decide) rfl ?_
          refine own_iconst X157 hx 85 rfl (hb hby own_d12_84) (0 : Int32) rfl ?_
          refine own_ret X157 (some (.int (0 : Int32))) (fun h => by rw [Bd.returns] at h; cases h) Bd.notSynchronized (by decide) (by decide) ?_ (fun fs hr => retN X157 hx (t := .boolean) Bd.returns (by simp) (hb hby own_d12_85) hr)
          show Q_rm_rb Z o i j a1 a2 a3 a4 k1 k2 k3 k4 v1 v2 v3 v4 xi xj ci cj ri rj pi pj h0 n0 _ T157.heap _
          rw [e157]
          exact ⟨_, rfl, N158, rfl, by decide⟩
      ·
        refine own_ifYes X116 hx 76 (hb hby own_d12_57) ((if0 _ _).trans (feq hc154).2) (by decide) rfl ?_
        refine own_iloadN X116 hx 77 rfl (hb hby own_d12_76) rfl ?_
        by_cases hc160 : z116 < (0 : Int32)
        ·
          refine own_ifNo X116 hx 80 rfl (hb hby own_d12_77) ((if0 _ _).trans (tlt hc160).2.1) ?_
          refine own_iconst X116 hx 81 rfl (hb hby own_d12_80) (1 : Int32) rfl ?_
          refine own_goto X116 hx 85 (hb hby own_d12_81) (by decide) rfl ?_
          refine own_ret X116 (some (.int (1 : Int32))) (fun h => by rw [Bd.returns] at h; cases h) Bd.notSynchronized (by decide) (by decide) ?_ (fun fs hr => retN X116 hx (t := .boolean) Bd.returns (by simp) (hb hby own_d12_85) hr)
          show Q_rm_rb Z o i j a1 a2 a3 a4 k1 k2 k3 k4 v1 v2 v3 v4 xi xj ci cj ri rj pi pj h0 n0 _ T116.heap _
          rw [e116]
          exact ⟨_, rfl, N117, rfl, by decide⟩
        ·
          refine own_ifYes X116 hx 84 (hb hby own_d12_77) ((if0 _ _).trans (flt hc160).2.1) (by decide) rfl ?_
          refine own_iconst X116 hx 85 rfl (hb hby own_d12_84) (0 : Int32) rfl ?_
          refine own_ret X116 (some (.int (0 : Int32))) (fun h => by rw [Bd.returns] at h; cases h) Bd.notSynchronized (by decide) (by decide) ?_ (fun fs hr => retN X116 hx (t := .boolean) Bd.returns (by simp) (hb hby own_d12_85) hr)
          show Q_rm_rb Z o i j a1 a2 a3 a4 k1 k2 k3 k4 v1 v2 v3 v4 xi xj ci cj ri rj pi pj h0 n0 _ T116.heap _
          rw [e116]
          exact ⟨_, rfl, N117, rfl, by decide⟩
theorem own_ef_rm_swap12 (m : MethodId) (o : Addr) : entryFrame m #[(.ref o), (.int (0 : Int32)), (.int (1 : Int32))] 4 = mkF m 0 #[.val (.ref o), .val (.int (0 : Int32)), .val (.int (1 : Int32)), .unset] [] := by first | (simp [entryFrame, mkF, argsToLocals, Value.category]; done) | rfl
def Q_rm_swap12 (Z : State) (o : Addr) (a5 : Addr) (k5 : ClassId) (x : Int32) (y : Int32) (h0 : Heap) (n0 : Nat) (v : Option Value) (h : Heap) (L : List Loc) : Prop := v = none ∧ Fr n0 L ∧ Keep h0 h [a5] ∧ Arv Z h a5 k5 .int (2 : Int32) [(.int y), (.int x)] (.int (0 : Int32))
theorem own_d14_0 : decode prog_15_method_11_code 0 = .ok (.aload_n 0, 1) := by decide +kernel
theorem own_d14_1 : decode prog_15_method_11_code 1 = .ok (.getfield 25, 3) := by decide +kernel
theorem own_d14_4 : decode prog_15_method_11_code 4 = .ok (.iload_n 1, 1) := by decide +kernel
theorem own_d14_5 : decode prog_15_method_11_code 5 = .ok (.iaload, 1) := by decide +kernel
theorem own_d14_6 : decode prog_15_method_11_code 6 = .ok (.istore_n 3, 1) := by decide +kernel
theorem own_d14_7 : decode prog_15_method_11_code 7 = .ok (.aload_n 0, 1) := by decide +kernel
theorem own_d14_8 : decode prog_15_method_11_code 8 = .ok (.getfield 25, 3) := by decide +kernel
theorem own_d14_11 : decode prog_15_method_11_code 11 = .ok (.iload_n 1, 1) := by decide +kernel
theorem own_d14_12 : decode prog_15_method_11_code 12 = .ok (.aload_n 0, 1) := by decide +kernel
theorem own_d14_13 : decode prog_15_method_11_code 13 = .ok (.getfield 25, 3) := by decide +kernel
theorem own_d14_16 : decode prog_15_method_11_code 16 = .ok (.iload_n 2, 1) := by decide +kernel
theorem own_d14_17 : decode prog_15_method_11_code 17 = .ok (.iaload, 1) := by decide +kernel
theorem own_d14_18 : decode prog_15_method_11_code 18 = .ok (.iastore, 1) := by decide +kernel
theorem own_d14_19 : decode prog_15_method_11_code 19 = .ok (.aload_n 0, 1) := by decide +kernel
theorem own_d14_20 : decode prog_15_method_11_code 20 = .ok (.getfield 25, 3) := by decide +kernel
theorem own_d14_23 : decode prog_15_method_11_code 23 = .ok (.iload_n 2, 1) := by decide +kernel
theorem own_d14_24 : decode prog_15_method_11_code 24 = .ok (.iload_n 3, 1) := by decide +kernel
theorem own_d14_25 : decode prog_15_method_11_code 25 = .ok (.iastore, 1) := by decide +kernel
theorem own_d14_26 : decode prog_15_method_11_code 26 = .ok (.return_, 1) := by decide +kernel
set_option maxRecDepth 65536 in
set_option maxHeartbeats 40000000 in
theorem rm_swap12 (l : Launch) (Z : State) (a0 : Array Value) (hw : ∀ d ∈ tables_1, d.before a0 Z = true) (ws : List Jvm.Cond) (o : Addr) (a5 : Addr) (k5 : ClassId) (x : Int32) (y : Int32) (h0 : Heap) (n0 : Nat) (Z0 : n0 ≤ h0.size) (F5 : Fld Z h0 o "com/example/prizepath/prizepath/Insertions" "kept" "[I" (.ref a5)) (A5 : Arv Z h0 a5 k5 .int (2 : Int32) [(.int x), (.int y)] (.int (0 : Int32))) (g5 : n0 ≤ a5) (no5 : o ≠ a5) :
    MetFree l (⟨"com/example/prizepath/prizepath/Insertions", "swapKept", "(II)V"⟩ : MethodName) (head1 (Jvm.Cond.code (⟨"com/example/prizepath/prizepath/Insertions", "swapKept", "(II)V"⟩ : MethodName) prog_15_method_11_code 4 none :: ws) ({ frames := 0, cells := 0, slots := 0, locals := 0 } : Room)) (fun aa U => aa = #[(.ref o), (.int (0 : Int32)), (.int (1 : Int32))] ∧ Z.Warmed39 U.vm ∧ U.heap = h0) (fun _ _ _ _ _ => True) (fun _ U ou U' => ∃ v L, ou = .returned v ∧ Q_rm_swap12 Z o a5 k5 x y h0 n0 v U'.heap L ∧ FrameEnd U ou U' L ({ frames := 0, cells := 0, slots := 0, locals := 0 } : Room).cells ({ frames := 0, cells := 0, slots := 0, locals := 0 } : Room).slots) := by
  refine MetFree.of_bodySF (plainFor_of_name own_pn2) hisR ?_
  intro p e s m args below meth c s₁ Bd hml0 hP hK
  obtain ⟨rfl, hZ, hh⟩ := hP
  have hx := Bd.exec
  have hby := Bd.bytes
  have hml : c.maxLocals = 4 := hml0
  have hown : s.vm.findClass "com/example/prizepath/prizepath/Insertions" = some m.cls := findClass_of_methodNamed Bd.named
  have hnm := (name_of_methodNamed Bd.named Bd.method).1
  have X0 : Stand p l e ({ frames := 0, cells := 0, slots := 0, locals := 0 } : Room) s m #[(.ref o), (.int (0 : Int32)), (.int (1 : Int32))] below meth c s₁ [] 0 0 := Stand.of_body Bd
  have e0 : s₁.heap = h0 := by rw [← hh, Bd.state]; rfl
  have N0 := Fr.nil n0
  have K0 := Keep.refl h0 [a5]
  show own_Go p e below (fun o u L => FrameEnd s o u L ({ frames := 0, cells := 0, slots := 0, locals := 0 } : Room).cells ({ frames := 0, cells := 0, slots := 0, locals := 0 } : Room).slots) (Q_rm_swap12 Z o a5 k5 x y h0 n0) (s₁.setTop (entryFrame m #[(.ref o), (.int (0 : Int32)), (.int (1 : Int32))] 4))
  rw [own_ef_rm_swap12 m o]
  show own_Go _ _ _ _ _ (State.setTop _ (mkF _ 0 #[.val (.ref o), .val (.int (0 : Int32)), .val (.int (1 : Int32)), .unset] []))
  refine own_aloadN X0 hx 1 rfl (hb hby own_d14_0) rfl rfl ?_
  refine own_getF X0 hx hZ (host := "") hown (Or.inl (own_hw hw 19 rfl)) Via.refl e0 F5 4 rfl (hb hby own_d14_1) fun T161 X161 e161 => ?_
  refine own_iloadN X161 hx 5 rfl (hb hby own_d14_4) rfl ?_
  refine own_ldI X161 hx hZ e161 A5 ⟨by decide, by decide⟩ x rfl 6 rfl (hb hby own_d14_5) ?_
  refine own_istoreN X161 hx 7 rfl (hb hby own_d14_6) #[.val (.ref o), .val (.int (0 : Int32)), .val (.int (1 : Int32)), .val (.int x)] rfl ?_
  refine own_aloadN X161 hx 8 rfl (hb hby own_d14_7) rfl rfl ?_
  refine own_getF X161 hx hZ (host := "") hown (Or.inl (own_hw hw 19 rfl)) Via.refl e161 F5 11 rfl (hb hby own_d14_8) fun T162 X162 e162 => ?_
  refine own_iloadN X162 hx 12 rfl (hb hby own_d14_11) rfl ?_
  refine own_aloadN X162 hx 13 rfl (hb hby own_d14_12) rfl rfl ?_
  refine own_getF X162 hx hZ (host := "") hown (Or.inl (own_hw hw 19 rfl)) Via.refl e162 F5 16 rfl (hb hby own_d14_13) fun T163 X163 e163 => ?_
  refine own_iloadN X163 hx 17 rfl (hb hby own_d14_16) rfl ?_
  refine own_ldI X163 hx hZ e163 A5 ⟨by decide, by decide⟩ y rfl 18 rfl (hb hby own_d14_17) ?_
  refine own_stI X163 hx hZ e163 A5 ⟨by decide, by decide⟩ 0 rfl (Nat.le_of_ble_eq_true rfl) [(.int y), (.int y)] rfl 19 rfl (hb hby own_d14_18) fun T164 h164 X164 e164 W164 f165 => ?_
  have f166 := F5.other W164 (Or.inl no5)
  have z167 := Nat.le_trans Z0 (Keep.of_wr W164).1
  have K168 := K0.wr W164 (Or.inl (List.mem_of_getElem? (i := 0) rfl))
  have N169 := Fr.snoc X164 N0 g5
  refine own_aloadN X164 hx 20 rfl (hb hby own_d14_19) rfl rfl ?_
  refine own_getF X164 hx hZ (host := "") hown (Or.inl (own_hw hw 19 rfl)) Via.refl e164 f166 23 rfl (hb hby own_d14_20) fun T170 X170 e170 => ?_
  refine own_iloadN X170 hx 24 rfl (hb hby own_d14_23) rfl ?_
  refine own_iloadN X170 hx 25 rfl (hb hby own_d14_24) rfl ?_
  refine own_stI X170 hx hZ e170 f165 ⟨by decide, by decide⟩ 1 rfl (Nat.le_of_ble_eq_true rfl) [(.int y), (.int x)] rfl 26 rfl (hb hby own_d14_25) fun T171 h171 X171 e171 W171 f172 => ?_
  have f173 := f166.other W171 (Or.inl no5)
  have z174 := Nat.le_trans z167 (Keep.of_wr W171).1
  have K175 := K168.wr W171 (Or.inl (List.mem_of_getElem? (i := 0) rfl))
  have N176 := Fr.snoc X171 N169 g5
  refine own_ret X171 none (fun _ => rfl) Bd.notSynchronized (by decide) (by decide) ?_ (fun fs hr => X171.returnOut hx Bd.returns (hb hby own_d14_26) hr)
  show Q_rm_swap12 Z o a5 k5 x y h0 n0 _ T171.heap _
  rw [e171]
  exact ⟨rfl, N176, K175, f172⟩
theorem own_ef_rm_swap13 (m : MethodId) (o : Addr) : entryFrame m #[(.ref o), (.int (0 : Int32)), (.int (1 : Int32))] 4 = mkF m 0 #[.val (.ref o), .val (.int (0 : Int32)), .val (.int (1 : Int32)), .unset] [] := by first | (simp [entryFrame, mkF, argsToLocals, Value.category]; done) | rfl
def Q_rm_swap13 (Z : State) (o : Addr) (a5 : Addr) (k5 : ClassId) (x : Int32) (y : Int32) (z : Int32) (h0 : Heap) (n0 : Nat) (v : Option Value) (h : Heap) (L : List Loc) : Prop := v = none ∧ Fr n0 L ∧ Keep h0 h [a5] ∧ Arv Z h a5 k5 .int (3 : Int32) [(.int y), (.int x), (.int z)] (.int (0 : Int32))
set_option maxRecDepth 65536 in
set_option maxHeartbeats 40000000 in
theorem rm_swap13 (l : Launch) (Z : State) (a0 : Array Value) (hw : ∀ d ∈ tables_1, d.before a0 Z = true) (ws : List Jvm.Cond) (o : Addr) (a5 : Addr) (k5 : ClassId) (x : Int32) (y : Int32) (z : Int32) (h0 : Heap) (n0 : Nat) (Z0 : n0 ≤ h0.size) (F5 : Fld Z h0 o "com/example/prizepath/prizepath/Insertions" "kept" "[I" (.ref a5)) (A5 : Arv Z h0 a5 k5 .int (3 : Int32) [(.int x), (.int y), (.int z)] (.int (0 : Int32))) (g5 : n0 ≤ a5) (no5 : o ≠ a5) :
    MetFree l (⟨"com/example/prizepath/prizepath/Insertions", "swapKept", "(II)V"⟩ : MethodName) (head1 (Jvm.Cond.code (⟨"com/example/prizepath/prizepath/Insertions", "swapKept", "(II)V"⟩ : MethodName) prog_15_method_11_code 4 none :: ws) ({ frames := 0, cells := 0, slots := 0, locals := 0 } : Room)) (fun aa U => aa = #[(.ref o), (.int (0 : Int32)), (.int (1 : Int32))] ∧ Z.Warmed39 U.vm ∧ U.heap = h0) (fun _ _ _ _ _ => True) (fun _ U ou U' => ∃ v L, ou = .returned v ∧ Q_rm_swap13 Z o a5 k5 x y z h0 n0 v U'.heap L ∧ FrameEnd U ou U' L ({ frames := 0, cells := 0, slots := 0, locals := 0 } : Room).cells ({ frames := 0, cells := 0, slots := 0, locals := 0 } : Room).slots) := by
  refine MetFree.of_bodySF (plainFor_of_name own_pn2) hisR ?_
  intro p e s m args below meth c s₁ Bd hml0 hP hK
  obtain ⟨rfl, hZ, hh⟩ := hP
  have hx := Bd.exec
  have hby := Bd.bytes
  have hml : c.maxLocals = 4 := hml0
  have hown : s.vm.findClass "com/example/prizepath/prizepath/Insertions" = some m.cls := findClass_of_methodNamed Bd.named
  have hnm := (name_of_methodNamed Bd.named Bd.method).1
  have X0 : Stand p l e ({ frames := 0, cells := 0, slots := 0, locals := 0 } : Room) s m #[(.ref o), (.int (0 : Int32)), (.int (1 : Int32))] below meth c s₁ [] 0 0 := Stand.of_body Bd
  have e0 : s₁.heap = h0 := by rw [← hh, Bd.state]; rfl
  have N0 := Fr.nil n0
  have K0 := Keep.refl h0 [a5]
  show own_Go p e below (fun o u L => FrameEnd s o u L ({ frames := 0, cells := 0, slots := 0, locals := 0 } : Room).cells ({ frames := 0, cells := 0, slots := 0, locals := 0 } : Room).slots) (Q_rm_swap13 Z o a5 k5 x y z h0 n0) (s₁.setTop (entryFrame m #[(.ref o), (.int (0 : Int32)), (.int (1 : Int32))] 4))
  rw [own_ef_rm_swap13 m o]
  show own_Go _ _ _ _ _ (State.setTop _ (mkF _ 0 #[.val (.ref o), .val (.int (0 : Int32)), .val (.int (1 : Int32)), .unset] []))
  refine own_aloadN X0 hx 1 rfl (hb hby own_d14_0) rfl rfl ?_
  refine own_getF X0 hx hZ (host := "") hown (Or.inl (own_hw hw 19 rfl)) Via.refl e0 F5 4 rfl (hb hby own_d14_1) fun T177 X177 e177 => ?_
  refine own_iloadN X177 hx 5 rfl (hb hby own_d14_4) rfl ?_
  refine own_ldI X177 hx hZ e177 A5 ⟨by decide, by decide⟩ x rfl 6 rfl (hb hby own_d14_5) ?_
  refine own_istoreN X177 hx 7 rfl (hb hby own_d14_6) #[.val (.ref o), .val (.int (0 : Int32)), .val (.int (1 : Int32)), .val (.int x)] rfl ?_
  refine own_aloadN X177 hx 8 rfl (hb hby own_d14_7) rfl rfl ?_
  refine own_getF X177 hx hZ (host := "") hown (Or.inl (own_hw hw 19 rfl)) Via.refl e177 F5 11 rfl (hb hby own_d14_8) fun T178 X178 e178 => ?_
  refine own_iloadN X178 hx 12 rfl (hb hby own_d14_11) rfl ?_
  refine own_aloadN X178 hx 13 rfl (hb hby own_d14_12) rfl rfl ?_
  refine own_getF X178 hx hZ (host := "") hown (Or.inl (own_hw hw 19 rfl)) Via.refl e178 F5 16 rfl (hb hby own_d14_13) fun T179 X179 e179 => ?_
  refine own_iloadN X179 hx 17 rfl (hb hby own_d14_16) rfl ?_
  refine own_ldI X179 hx hZ e179 A5 ⟨by decide, by decide⟩ y rfl 18 rfl (hb hby own_d14_17) ?_
  refine own_stI X179 hx hZ e179 A5 ⟨by decide, by decide⟩ 0 rfl (Nat.le_of_ble_eq_true rfl) [(.int y), (.int y), (.int z)] rfl 19 rfl (hb hby own_d14_18) fun T180 h180 X180 e180 W180 f181 => ?_
  have f182 := F5.other W180 (Or.inl no5)
  have z183 := Nat.le_trans Z0 (Keep.of_wr W180).1
  have K184 := K0.wr W180 (Or.inl (List.mem_of_getElem? (i := 0) rfl))
  have N185 := Fr.snoc X180 N0 g5
  refine own_aloadN X180 hx 20 rfl (hb hby own_d14_19) rfl rfl ?_
  refine own_getF X180 hx hZ (host := "") hown (Or.inl (own_hw hw 19 rfl)) Via.refl e180 f182 23 rfl (hb hby own_d14_20) fun T186 X186 e186 => ?_
  refine own_iloadN X186 hx 24 rfl (hb hby own_d14_23) rfl ?_
  refine own_iloadN X186 hx 25 rfl (hb hby own_d14_24) rfl ?_
  refine own_stI X186 hx hZ e186 f181 ⟨by decide, by decide⟩ 1 rfl (Nat.le_of_ble_eq_true rfl) [(.int y), (.int x), (.int z)] rfl 26 rfl (hb hby own_d14_25) fun T187 h187 X187 e187 W187 f188 => ?_
  have f189 := f182.other W187 (Or.inl no5)
  have z190 := Nat.le_trans z183 (Keep.of_wr W187).1
  have K191 := K184.wr W187 (Or.inl (List.mem_of_getElem? (i := 0) rfl))
  have N192 := Fr.snoc X187 N185 g5
  refine own_ret X187 none (fun _ => rfl) Bd.notSynchronized (by decide) (by decide) ?_ (fun fs hr => X187.returnOut hx Bd.returns (hb hby own_d14_26) hr)
  show Q_rm_swap13 Z o a5 k5 x y z h0 n0 _ T187.heap _
  rw [e187]
  exact ⟨rfl, N192, K191, f188⟩
theorem own_ef_rm_swap23 (m : MethodId) (o : Addr) : entryFrame m #[(.ref o), (.int (0 : Int32)), (.int (2 : Int32))] 4 = mkF m 0 #[.val (.ref o), .val (.int (0 : Int32)), .val (.int (2 : Int32)), .unset] [] := by first | (simp [entryFrame, mkF, argsToLocals, Value.category]; done) | rfl
def Q_rm_swap23 (Z : State) (o : Addr) (a5 : Addr) (k5 : ClassId) (x : Int32) (y : Int32) (z : Int32) (h0 : Heap) (n0 : Nat) (v : Option Value) (h : Heap) (L : List Loc) : Prop := v = none ∧ Fr n0 L ∧ Keep h0 h [a5] ∧ Arv Z h a5 k5 .int (3 : Int32) [(.int z), (.int y), (.int x)] (.int (0 : Int32))
set_option maxRecDepth 65536 in
set_option maxHeartbeats 40000000 in
theorem rm_swap23 (l : Launch) (Z : State) (a0 : Array Value) (hw : ∀ d ∈ tables_1, d.before a0 Z = true) (ws : List Jvm.Cond) (o : Addr) (a5 : Addr) (k5 : ClassId) (x : Int32) (y : Int32) (z : Int32) (h0 : Heap) (n0 : Nat) (Z0 : n0 ≤ h0.size) (F5 : Fld Z h0 o "com/example/prizepath/prizepath/Insertions" "kept" "[I" (.ref a5)) (A5 : Arv Z h0 a5 k5 .int (3 : Int32) [(.int x), (.int y), (.int z)] (.int (0 : Int32))) (g5 : n0 ≤ a5) (no5 : o ≠ a5) :
    MetFree l (⟨"com/example/prizepath/prizepath/Insertions", "swapKept", "(II)V"⟩ : MethodName) (head1 (Jvm.Cond.code (⟨"com/example/prizepath/prizepath/Insertions", "swapKept", "(II)V"⟩ : MethodName) prog_15_method_11_code 4 none :: ws) ({ frames := 0, cells := 0, slots := 0, locals := 0 } : Room)) (fun aa U => aa = #[(.ref o), (.int (0 : Int32)), (.int (2 : Int32))] ∧ Z.Warmed39 U.vm ∧ U.heap = h0) (fun _ _ _ _ _ => True) (fun _ U ou U' => ∃ v L, ou = .returned v ∧ Q_rm_swap23 Z o a5 k5 x y z h0 n0 v U'.heap L ∧ FrameEnd U ou U' L ({ frames := 0, cells := 0, slots := 0, locals := 0 } : Room).cells ({ frames := 0, cells := 0, slots := 0, locals := 0 } : Room).slots) := by
  refine MetFree.of_bodySF (plainFor_of_name own_pn2) hisR ?_
  intro p e s m args below meth c s₁ Bd hml0 hP hK
  obtain ⟨rfl, hZ, hh⟩ := hP
  have hx := Bd.exec
  have hby := Bd.bytes
  have hml : c.maxLocals = 4 := hml0
  have hown : s.vm.findClass "com/example/prizepath/prizepath/Insertions" = some m.cls := findClass_of_methodNamed Bd.named
  have hnm := (name_of_methodNamed Bd.named Bd.method).1
  have X0 : Stand p l e ({ frames := 0, cells := 0, slots := 0, locals := 0 } : Room) s m #[(.ref o), (.int (0 : Int32)), (.int (2 : Int32))] below meth c s₁ [] 0 0 := Stand.of_body Bd
  have e0 : s₁.heap = h0 := by rw [← hh, Bd.state]; rfl
  have N0 := Fr.nil n0
  have K0 := Keep.refl h0 [a5]
  show own_Go p e below (fun o u L => FrameEnd s o u L ({ frames := 0, cells := 0, slots := 0, locals := 0 } : Room).cells ({ frames := 0, cells := 0, slots := 0, locals := 0 } : Room).slots) (Q_rm_swap23 Z o a5 k5 x y z h0 n0) (s₁.setTop (entryFrame m #[(.ref o), (.int (0 : Int32)), (.int (2 : Int32))] 4))
  rw [own_ef_rm_swap23 m o]
  show own_Go _ _ _ _ _ (State.setTop _ (mkF _ 0 #[.val (.ref o), .val (.int (0 : Int32)), .val (.int (2 : Int32)), .unset] []))
  refine own_aloadN X0 hx 1 rfl (hb hby own_d14_0) rfl rfl ?_
  refine own_getF X0 hx hZ (host := "") hown (Or.inl (own_hw hw 19 rfl)) Via.refl e0 F5 4 rfl (hb hby own_d14_1) fun T193 X193 e193 => ?_
  refine own_iloadN X193 hx 5 rfl (hb hby own_d14_4) rfl ?_
  refine own_ldI X193 hx hZ e193 A5 ⟨by decide, by decide⟩ x rfl 6 rfl (hb hby own_d14_5) ?_
  refine own_istoreN X193 hx 7 rfl (hb hby own_d14_6) #[.val (.ref o), .val (.int (0 : Int32)), .val (.int (2 : Int32)), .val (.int x)] rfl ?_
  refine own_aloadN X193 hx 8 rfl (hb hby own_d14_7) rfl rfl ?_
  refine own_getF X193 hx hZ (host := "") hown (Or.inl (own_hw hw 19 rfl)) Via.refl e193 F5 11 rfl (hb hby own_d14_8) fun T194 X194 e194 => ?_
  refine own_iloadN X194 hx 12 rfl (hb hby own_d14_11) rfl ?_
  refine own_aloadN X194 hx 13 rfl (hb hby own_d14_12) rfl rfl ?_
  refine own_getF X194 hx hZ (host := "") hown (Or.inl (own_hw hw 19 rfl)) Via.refl e194 F5 16 rfl (hb hby own_d14_13) fun T195 X195 e195 => ?_
  refine own_iloadN X195 hx 17 rfl (hb hby own_d14_16) rfl ?_
  refine own_ldI X195 hx hZ e195 A5 ⟨by decide, by decide⟩ z rfl 18 rfl (hb hby own_d14_17) ?_
  refine own_stI X195 hx hZ e195 A5 ⟨by decide, by decide⟩ 0 rfl (Nat.le_of_ble_eq_true rfl) [(.int z), (.int y), (.int z)] rfl 19 rfl (hb hby own_d14_18) fun T196 h196 X196 e196 W196 f197 => ?_
  have f198 := F5.other W196 (Or.inl no5)
  have z199 := Nat.le_trans Z0 (Keep.of_wr W196).1
  have K200 := K0.wr W196 (Or.inl (List.mem_of_getElem? (i := 0) rfl))
  have N201 := Fr.snoc X196 N0 g5
  refine own_aloadN X196 hx 20 rfl (hb hby own_d14_19) rfl rfl ?_
  refine own_getF X196 hx hZ (host := "") hown (Or.inl (own_hw hw 19 rfl)) Via.refl e196 f198 23 rfl (hb hby own_d14_20) fun T202 X202 e202 => ?_
  refine own_iloadN X202 hx 24 rfl (hb hby own_d14_23) rfl ?_
  refine own_iloadN X202 hx 25 rfl (hb hby own_d14_24) rfl ?_
  refine own_stI X202 hx hZ e202 f197 ⟨by decide, by decide⟩ 2 rfl (Nat.le_of_ble_eq_true rfl) [(.int z), (.int y), (.int x)] rfl 26 rfl (hb hby own_d14_25) fun T203 h203 X203 e203 W203 f204 => ?_
  have f205 := f198.other W203 (Or.inl no5)
  have z206 := Nat.le_trans z199 (Keep.of_wr W203).1
  have K207 := K200.wr W203 (Or.inl (List.mem_of_getElem? (i := 0) rfl))
  have N208 := Fr.snoc X203 N201 g5
  refine own_ret X203 none (fun _ => rfl) Bd.notSynchronized (by decide) (by decide) ?_ (fun fs hr => X203.returnOut hx Bd.returns (hb hby own_d14_26) hr)
  show Q_rm_swap23 Z o a5 k5 x y z h0 n0 _ T203.heap _
  rw [e203]
  exact ⟨rfl, N208, K207, f204⟩
theorem own_ef_rm_up0 (m : MethodId) (o : Addr) : entryFrame m #[(.ref o), (.int (0 : Int32))] 4 = mkF m 0 #[.val (.ref o), .val (.int (0 : Int32)), .unset, .unset] [] := by first | (simp [entryFrame, mkF, argsToLocals, Value.category]; done) | rfl
def Q_rm_up0 (Z : State) (o : Addr) (h0 : Heap) (n0 : Nat) (v : Option Value) (h : Heap) (L : List Loc) : Prop := v = none ∧ Fr n0 L ∧ h = h0
theorem own_d8_0 : decode prog_15_method_9_code 0 = .ok (.iload_n 1, 1) := by decide +kernel
theorem own_d8_1 : decode prog_15_method_9_code 1 = .ok (.istore_n 2, 1) := by decide +kernel
theorem own_d8_2 : decode prog_15_method_9_code 2 = .ok (.iload_n 2, 1) := by decide +kernel
theorem own_d8_3 : decode prog_15_method_9_code 3 = .ok (.ifCond .le 42, 3) := by decide +kernel
theorem own_d8_45 : decode prog_15_method_9_code 45 = .ok (.return_, 1) := by decide +kernel
set_option maxRecDepth 65536 in
set_option maxHeartbeats 40000000 in
theorem rm_up0 (l : Launch) (Z : State) (a0 : Array Value) (hw : ∀ d ∈ tables_1, d.before a0 Z = true) (ws : List Jvm.Cond) (o : Addr) (h0 : Heap) (n0 : Nat) (Z0 : n0 ≤ h0.size)  :
    MetFree l (⟨"com/example/prizepath/prizepath/Insertions", "siftUp", "(I)V"⟩ : MethodName) (head1 (Jvm.Cond.code (⟨"com/example/prizepath/prizepath/Insertions", "siftUp", "(I)V"⟩ : MethodName) prog_15_method_9_code 4 none :: ws) ({ frames := 0, cells := 0, slots := 0, locals := 0 } : Room)) (fun aa U => aa = #[(.ref o), (.int (0 : Int32))] ∧ Z.Warmed39 U.vm ∧ U.heap = h0) (fun _ _ _ _ _ => True) (fun _ U ou U' => ∃ v L, ou = .returned v ∧ Q_rm_up0 Z o h0 n0 v U'.heap L ∧ FrameEnd U ou U' L ({ frames := 0, cells := 0, slots := 0, locals := 0 } : Room).cells ({ frames := 0, cells := 0, slots := 0, locals := 0 } : Room).slots) := by
  refine MetFree.of_bodySF (plainFor_of_name own_pn2) hisR ?_
  intro p e s m args below meth c s₁ Bd hml0 hP hK
  obtain ⟨rfl, hZ, hh⟩ := hP
  have hx := Bd.exec
  have hby := Bd.bytes
  have hml : c.maxLocals = 4 := hml0
  have hown : s.vm.findClass "com/example/prizepath/prizepath/Insertions" = some m.cls := findClass_of_methodNamed Bd.named
  have hnm := (name_of_methodNamed Bd.named Bd.method).1
  have X0 : Stand p l e ({ frames := 0, cells := 0, slots := 0, locals := 0 } : Room) s m #[(.ref o), (.int (0 : Int32))] below meth c s₁ [] 0 0 := Stand.of_body Bd
  have e0 : s₁.heap = h0 := by rw [← hh, Bd.state]; rfl
  have N0 := Fr.nil n0
  show own_Go p e below (fun o u L => FrameEnd s o u L ({ frames := 0, cells := 0, slots := 0, locals := 0 } : Room).cells ({ frames := 0, cells := 0, slots := 0, locals := 0 } : Room).slots) (Q_rm_up0 Z o h0 n0) (s₁.setTop (entryFrame m #[(.ref o), (.int (0 : Int32))] 4))
  rw [own_ef_rm_up0 m o]
  show own_Go _ _ _ _ _ (State.setTop _ (mkF _ 0 #[.val (.ref o), .val (.int (0 : Int32)), .unset, .unset] []))
  refine own_iloadN X0 hx 1 rfl (hb hby own_d8_0) rfl ?_
  refine own_istoreN X0 hx 2 rfl (hb hby own_d8_1) #[.val (.ref o), .val (.int (0 : Int32)), .val (.int (0 : Int32)), .unset] rfl ?_
  refine own_iloadN X0 hx 3 rfl (hb hby own_d8_2) rfl ?_
  refine own_ifYes X0 hx 45 (hb hby own_d8_3) (by decide) (by decide) rfl ?_
  refine own_ret X0 none (fun _ => rfl) Bd.notSynchronized (by decide) (by decide) ?_ (fun fs hr => X0.returnOut hx Bd.returns (hb hby own_d8_45) hr)
  show Q_rm_up0 Z o h0 n0 _ s₁.heap _
  rw [e0]
  exact ⟨rfl, N0, rfl⟩
theorem own_ef_rm_up12 (m : MethodId) (o : Addr) : entryFrame m #[(.ref o), (.int (1 : Int32))] 4 = mkF m 0 #[.val (.ref o), .val (.int (1 : Int32)), .unset, .unset] [] := by first | (simp [entryFrame, mkF, argsToLocals, Value.category]; done) | rfl
def Q_rm_up12 (Z : State) (o : Addr) (a1 : Addr) (a2 : Addr) (a3 : Addr) (a4 : Addr) (a5 : Addr) (k1 : ClassId) (k2 : ClassId) (k3 : ClassId) (k4 : ClassId) (k5 : ClassId) (c0 : Int32) (c1 : Int32) (c2 : Int32) (r0 : Int32) (r1 : Int32) (r2 : Int32) (p0 : Int32) (p1 : Int32) (p2 : Int32) (d0 : UInt64) (d1 : UInt64) (d2 : UInt64) (h0 : Heap) (n0 : Nat) (v : Option Value) (h : Heap) (L : List Loc) : Prop := v = none ∧ Fr n0 L ∧ Keep h0 h [a5] ∧ (Arv Z h a5 k5 .int (2 : Int32) [(.int (0 : Int32)), (.int (1 : Int32))] (.int (0 : Int32)) ∨ Arv Z h a5 k5 .int (2 : Int32) [(.int (1 : Int32)), (.int (0 : Int32))] (.int (0 : Int32)))
theorem own_d8_6 : decode prog_15_method_9_code 6 = .ok (.iload_n 2, 1) := by decide +kernel
theorem own_d8_7 : decode prog_15_method_9_code 7 = .ok (.iconst 1, 1) := by decide +kernel
theorem own_d8_8 : decode prog_15_method_9_code 8 = .ok (.isub, 1) := by decide +kernel
theorem own_d8_9 : decode prog_15_method_9_code 9 = .ok (.iconst 2, 1) := by decide +kernel
theorem own_d8_10 : decode prog_15_method_9_code 10 = .ok (.idiv, 1) := by decide +kernel
theorem own_d8_11 : decode prog_15_method_9_code 11 = .ok (.istore_n 3, 1) := by decide +kernel
theorem own_d8_12 : decode prog_15_method_9_code 12 = .ok (.aload_n 0, 1) := by decide +kernel
theorem own_d8_13 : decode prog_15_method_9_code 13 = .ok (.aload_n 0, 1) := by decide +kernel
theorem own_d8_14 : decode prog_15_method_9_code 14 = .ok (.getfield 25, 3) := by decide +kernel
theorem own_d8_17 : decode prog_15_method_9_code 17 = .ok (.iload_n 3, 1) := by decide +kernel
theorem own_d8_18 : decode prog_15_method_9_code 18 = .ok (.iaload, 1) := by decide +kernel
theorem own_d8_19 : decode prog_15_method_9_code 19 = .ok (.aload_n 0, 1) := by decide +kernel
theorem own_d8_20 : decode prog_15_method_9_code 20 = .ok (.getfield 25, 3) := by decide +kernel
theorem own_d8_23 : decode prog_15_method_9_code 23 = .ok (.iload_n 2, 1) := by decide +kernel
theorem own_d8_24 : decode prog_15_method_9_code 24 = .ok (.iaload, 1) := by decide +kernel
theorem own_d8_25 : decode prog_15_method_9_code 25 = .ok (.invokevirtual 54, 3) := by decide +kernel
theorem own_pd4 : parseMethodDescriptor "(II)Z" = some ⟨[.int, .int], some .boolean⟩ := by decide +kernel
theorem own_d8_28 : decode prog_15_method_9_code 28 = .ok (.ifCond .ne 6, 3) := by decide +kernel
theorem own_d8_31 : decode prog_15_method_9_code 31 = .ok (.goto 14, 3) := by decide +kernel
theorem own_d8_34 : decode prog_15_method_9_code 34 = .ok (.aload_n 0, 1) := by decide +kernel
theorem own_d8_35 : decode prog_15_method_9_code 35 = .ok (.iload_n 3, 1) := by decide +kernel
theorem own_d8_36 : decode prog_15_method_9_code 36 = .ok (.iload_n 2, 1) := by decide +kernel
theorem own_d8_37 : decode prog_15_method_9_code 37 = .ok (.invokevirtual 89, 3) := by decide +kernel
theorem own_pd5 : parseMethodDescriptor "(II)V" = some ⟨[.int, .int], none⟩ := by decide +kernel
theorem own_d8_40 : decode prog_15_method_9_code 40 = .ok (.iload_n 3, 1) := by decide +kernel
theorem own_d8_41 : decode prog_15_method_9_code 41 = .ok (.istore_n 2, 1) := by decide +kernel
theorem own_d8_42 : decode prog_15_method_9_code 42 = .ok (.goto (-40), 3) := by decide +kernel
set_option maxRecDepth 65536 in
set_option maxHeartbeats 40000000 in
theorem rm_up12 (l : Launch) (Z : State) (a0 : Array Value) (hw : ∀ d ∈ tables_1, d.before a0 Z = true) (ws : List Jvm.Cond) (o : Addr) (a1 : Addr) (a2 : Addr) (a3 : Addr) (a4 : Addr) (a5 : Addr) (k1 : ClassId) (k2 : ClassId) (k3 : ClassId) (k4 : ClassId) (k5 : ClassId) (c0 : Int32) (c1 : Int32) (c2 : Int32) (r0 : Int32) (r1 : Int32) (r2 : Int32) (p0 : Int32) (p1 : Int32) (p2 : Int32) (d0 : UInt64) (d1 : UInt64) (d2 : UInt64) (h0 : Heap) (n0 : Nat) (Z0 : n0 ≤ h0.size) (E0 : Exa Z h0 o "com/example/prizepath/prizepath/Insertions") (F1 : Fld Z h0 o "com/example/prizepath/prizepath/Insertions" "customers" "[I" (.ref a1)) (F2 : Fld Z h0 o "com/example/prizepath/prizepath/Insertions" "routes" "[I" (.ref a2)) (F3 : Fld Z h0 o "com/example/prizepath/prizepath/Insertions" "places" "[I" (.ref a3)) (F4 : Fld Z h0 o "com/example/prizepath/prizepath/Insertions" "ranks" "[D" (.ref a4)) (F5 : Fld Z h0 o "com/example/prizepath/prizepath/Insertions" "kept" "[I" (.ref a5)) (A1 : Arv Z h0 a1 k1 .int (256 : Int32) [(.int c0), (.int c1), (.int c2)] (.int (0 : Int32))) (A2 : Arv Z h0 a2 k2 .int (256 : Int32) [(.int r0), (.int r1), (.int r2)] (.int (0 : Int32))) (A3 : Arv Z h0 a3 k3 .int (256 : Int32) [(.int p0), (.int p1), (.int p2)] (.int (0 : Int32))) (A4 : Arv Z h0 a4 k4 .double (256 : Int32) [(.double d0), (.double d1), (.double d2)] (.double (0 : UInt64))) (A5 : Arv Z h0 a5 k5 .int (2 : Int32) [(.int (0 : Int32)), (.int (1 : Int32))] (.int (0 : Int32))) (g5 : n0 ≤ a5) (n01 : a1 ≠ a5) (n02 : a2 ≠ a5) (n03 : a3 ≠ a5) (n04 : a4 ≠ a5) (no5 : o ≠ a5) (nd0 : cmpValue (FP.dcmp d0 d0) .l = 0) (nd1 : cmpValue (FP.dcmp d1 d1) .l = 0) (nd2 : cmpValue (FP.dcmp d2 d2) .l = 0) :
    MetFree l (⟨"com/example/prizepath/prizepath/Insertions", "siftUp", "(I)V"⟩ : MethodName) (head1 (Jvm.Cond.code (⟨"com/example/prizepath/prizepath/Insertions", "siftUp", "(I)V"⟩ : MethodName) prog_15_method_9_code 4 none :: ws) ({ frames := 4, cells := 0, slots := 0, locals := 70 } : Room)) (fun aa U => aa = #[(.ref o), (.int (1 : Int32))] ∧ Z.Warmed39 U.vm ∧ U.heap = h0) (fun _ _ _ _ _ => True) (fun _ U ou U' => ∃ v L, ou = .returned v ∧ Q_rm_up12 Z o a1 a2 a3 a4 a5 k1 k2 k3 k4 k5 c0 c1 c2 r0 r1 r2 p0 p1 p2 d0 d1 d2 h0 n0 v U'.heap L ∧ FrameEnd U ou U' L ({ frames := 4, cells := 0, slots := 0, locals := 70 } : Room).cells ({ frames := 4, cells := 0, slots := 0, locals := 70 } : Room).slots) := by
  refine MetFree.of_bodySF (plainFor_of_name own_pn2) hisR ?_
  intro p e s m args below meth c s₁ Bd hml0 hP hK
  obtain ⟨rfl, hZ, hh⟩ := hP
  have hx := Bd.exec
  have hby := Bd.bytes
  have hml : c.maxLocals = 4 := hml0
  have hown : s.vm.findClass "com/example/prizepath/prizepath/Insertions" = some m.cls := findClass_of_methodNamed Bd.named
  have hnm := (name_of_methodNamed Bd.named Bd.method).1
  have X0 : Stand p l e ({ frames := 4, cells := 0, slots := 0, locals := 70 } : Room) s m #[(.ref o), (.int (1 : Int32))] below meth c s₁ [] 0 0 := Stand.of_body Bd
  have e0 : s₁.heap = h0 := by rw [← hh, Bd.state]; rfl
  have N0 := Fr.nil n0
  have K0 := Keep.refl h0 [a5]
  show own_Go p e below (fun o u L => FrameEnd s o u L ({ frames := 4, cells := 0, slots := 0, locals := 70 } : Room).cells ({ frames := 4, cells := 0, slots := 0, locals := 70 } : Room).slots) (Q_rm_up12 Z o a1 a2 a3 a4 a5 k1 k2 k3 k4 k5 c0 c1 c2 r0 r1 r2 p0 p1 p2 d0 d1 d2 h0 n0) (s₁.setTop (entryFrame m #[(.ref o), (.int (1 : Int32))] 4))
  rw [own_ef_rm_up12 m o]
  show own_Go _ _ _ _ _ (State.setTop _ (mkF _ 0 #[.val (.ref o), .val (.int (1 : Int32)), .unset, .unset] []))
  refine own_iloadN X0 hx 1 rfl (hb hby own_d8_0) rfl ?_
  refine own_istoreN X0 hx 2 rfl (hb hby own_d8_1) #[.val (.ref o), .val (.int (1 : Int32)), .val (.int (1 : Int32)), .unset] rfl ?_
  refine own_iloadN X0 hx 3 rfl (hb hby own_d8_2) rfl ?_
  refine own_ifNo X0 hx 6 rfl (hb hby own_d8_3) (by decide) ?_
  refine own_iloadN X0 hx 7 rfl (hb hby own_d8_6) rfl ?_
  refine own_iconst X0 hx 8 rfl (hb hby own_d8_7) (1 : Int32) rfl ?_
  refine own_isub X0 hx 9 rfl (hb hby own_d8_8) (0 : Int32) rfl ?_
  refine own_iconst X0 hx 10 rfl (hb hby own_d8_9) (2 : Int32) rfl ?_
  refine own_idiv X0 hx 11 rfl (hb hby own_d8_10) (by decide) (0 : Int32) rfl ?_
  refine own_istoreN X0 hx 12 rfl (hb hby own_d8_11) #[.val (.ref o), .val (.int (1 : Int32)), .val (.int (1 : Int32)), .val (.int (0 : Int32))] rfl ?_
  refine own_aloadN X0 hx 13 rfl (hb hby own_d8_12) rfl rfl ?_
  refine own_aloadN X0 hx 14 rfl (hb hby own_d8_13) rfl rfl ?_
  refine own_getF X0 hx hZ (host := "") hown (Or.inl (own_hw hw 19 rfl)) Via.refl e0 F5 17 rfl (hb hby own_d8_14) fun T209 X209 e209 => ?_
  refine own_iloadN X209 hx 18 rfl (hb hby own_d8_17) rfl ?_
  refine own_ldI X209 hx hZ e209 A5 ⟨by decide, by decide⟩ (0 : Int32) rfl 19 rfl (hb hby own_d8_18) ?_
  refine own_aloadN X209 hx 20 rfl (hb hby own_d8_19) rfl rfl ?_
  refine own_getF X209 hx hZ (host := "") hown (Or.inl (own_hw hw 19 rfl)) Via.refl e209 F5 23 rfl (hb hby own_d8_20) fun T210 X210 e210 => ?_
  refine own_iloadN X210 hx 24 rfl (hb hby own_d8_23) rfl ?_
  refine own_ldI X210 hx hZ e210 A5 ⟨by decide, by decide⟩ (1 : Int32) rfl 25 rfl (hb hby own_d8_24) ?_
  refine own_private X210 hx hZ (y := (⟨"com/example/prizepath/prizepath/Insertions", "ranksBefore", "(II)Z"⟩ : MethodName)) (z := (⟨"com/example/prizepath/prizepath/Insertions", "clear", "()V"⟩ : MethodName)) hown (own_hw hw 75 rfl) (own_hw hw 76 rfl) rfl (own_hw hw 24 rfl) (own_hw hw 77 rfl) (a := o) E0 (by decide) (rm_rb l Z a0 hw [] o (0 : Int32) (1 : Int32) a1 a2 a3 a4 k1 k2 k3 k4 [(.int c0), (.int c1), (.int c2)] [(.int r0), (.int r1), (.int r2)] [(.int p0), (.int p1), (.int p2)] [(.double d0), (.double d1), (.double d2)] d0 d1 c0 c1 r0 r1 p0 p1 h0 n0 Z0 F1 F2 F3 F4 A1 A2 A3 A4 ⟨by decide, by decide⟩ ⟨by decide, by decide⟩ rfl rfl rfl rfl rfl rfl rfl rfl nd0 nd1) (own_hw hw 78 rfl) (own_hw hw 2 rfl) (by decide) e210 (by rw [hml]; rfl) [(.int (0 : Int32)), (.int (1 : Int32))] 0 (by decide) (Nat.le_of_eq rfl) (by decide) (by decide) (lenOf own_pd4 rfl) rfl rfl 28 rfl (hb hby own_d8_25) fun v211 T211 Lc211 X211 hQ211 => ?_
  obtain ⟨z211, rfl, Nq211, e211, hz211⟩ := hQ211
  have N212 := Fr.app N0 Nq211
  rcases hz211 with rfl | rfl
  ·
    show own_Go _ _ _ _ _ (State.setTop _ (mkF _ 28 #[.val (.ref o), .val (.int (1 : Int32)), .val (.int (1 : Int32)), .val (.int (0 : Int32))] [(.int (0 : Int32))]))
    refine own_ifNo X211 hx 31 rfl (hb hby own_d8_28) (by decide) ?_
    refine own_goto X211 hx 45 (hb hby own_d8_31) (by decide) rfl ?_
    refine own_ret X211 none (fun _ => rfl) Bd.notSynchronized (by decide) (by decide) ?_ (fun fs hr => X211.returnOut hx Bd.returns (hb hby own_d8_45) hr)
    show Q_rm_up12 Z o a1 a2 a3 a4 a5 k1 k2 k3 k4 k5 c0 c1 c2 r0 r1 r2 p0 p1 p2 d0 d1 d2 h0 n0 _ T211.heap _
    rw [e211]
    exact ⟨rfl, N212, K0, Or.inl A5⟩
  ·
    show own_Go _ _ _ _ _ (State.setTop _ (mkF _ 28 #[.val (.ref o), .val (.int (1 : Int32)), .val (.int (1 : Int32)), .val (.int (0 : Int32))] [(.int (1 : Int32))]))
    refine own_ifYes X211 hx 34 (hb hby own_d8_28) (by decide) (by decide) rfl ?_
    refine own_aloadN X211 hx 35 rfl (hb hby own_d8_34) rfl rfl ?_
    refine own_iloadN X211 hx 36 rfl (hb hby own_d8_35) rfl ?_
    refine own_iloadN X211 hx 37 rfl (hb hby own_d8_36) rfl ?_
    refine own_private X211 hx hZ (y := (⟨"com/example/prizepath/prizepath/Insertions", "swapKept", "(II)V"⟩ : MethodName)) (z := (⟨"com/example/prizepath/prizepath/Insertions", "clear", "()V"⟩ : MethodName)) hown (own_hw hw 83 rfl) (own_hw hw 84 rfl) rfl (own_hw hw 24 rfl) (own_hw hw 85 rfl) (a := o) E0 (by decide) (rm_swap12 l Z a0 hw [] o a5 k5 (0 : Int32) (1 : Int32) h0 n0 Z0 F5 A5 g5 no5) (own_hw hw 86 rfl) (own_hw hw 2 rfl) (by decide) e211 (by rw [hml]; rfl) [(.int (0 : Int32)), (.int (1 : Int32))] 0 (by decide) (Nat.le_of_eq rfl) (by decide) (by decide) (lenOf own_pd5 rfl) rfl rfl 40 rfl (hb hby own_d8_37) fun v213 T213 Lc213 X213 hQ213 => ?_
    obtain ⟨rfl, Nq213, Kq213, f214⟩ := hQ213
    have N215 := Fr.app N212 Nq213
    have f216 := E0.keep Kq213
    have f217 := F1.keep Kq213 (ninS no5 nin0)
    have f218 := F2.keep Kq213 (ninS no5 nin0)
    have f219 := F3.keep Kq213 (ninS no5 nin0)
    have f220 := F4.keep Kq213 (ninS no5 nin0)
    have f221 := F5.keep Kq213 (ninS no5 nin0)
    have f222 := A1.keep Kq213 (ninS n01 nin0)
    have f223 := A2.keep Kq213 (ninS n02 nin0)
    have f224 := A3.keep Kq213 (ninS n03 nin0)
    have f225 := A4.keep Kq213 (ninS n04 nin0)
    have z227 := Nat.le_trans Z0 Kq213.1
    have K228 := K0.trans Kq213 (allS (Or.inl (List.mem_of_getElem? (i := 0) rfl)) all0)
    show own_Go _ _ _ _ _ (State.setTop _ (mkF _ 40 _ []))
    refine own_iloadN X213 hx 41 rfl (hb hby own_d8_40) rfl ?_
    refine own_istoreN X213 hx 42 rfl (hb hby own_d8_41) #[.val (.ref o), .val (.int (1 : Int32)), .val (.int (0 : Int32)), .val (.int (0 : Int32))] rfl ?_
    refine own_goto X213 hx 2 (hb hby own_d8_42) (by decide) rfl ?_
    refine own_iloadN X213 hx 3 rfl (hb hby own_d8_2) rfl ?_
    refine own_ifYes X213 hx 45 (hb hby own_d8_3) (by decide) (by decide) rfl ?_
    refine own_ret X213 none (fun _ => rfl) Bd.notSynchronized (by decide) (by decide) ?_ (fun fs hr => X213.returnOut hx Bd.returns (hb hby own_d8_45) hr)
    show Q_rm_up12 Z o a1 a2 a3 a4 a5 k1 k2 k3 k4 k5 c0 c1 c2 r0 r1 r2 p0 p1 p2 d0 d1 d2 h0 n0 _ T213.heap _
    exact ⟨rfl, N215, K228, Or.inr f214⟩
theorem own_ef_rm_up13 (m : MethodId) (o : Addr) : entryFrame m #[(.ref o), (.int (1 : Int32))] 4 = mkF m 0 #[.val (.ref o), .val (.int (1 : Int32)), .unset, .unset] [] := by first | (simp [entryFrame, mkF, argsToLocals, Value.category]; done) | rfl
def Q_rm_up13 (Z : State) (o : Addr) (a1 : Addr) (a2 : Addr) (a3 : Addr) (a4 : Addr) (a5 : Addr) (k1 : ClassId) (k2 : ClassId) (k3 : ClassId) (k4 : ClassId) (k5 : ClassId) (c0 : Int32) (c1 : Int32) (c2 : Int32) (r0 : Int32) (r1 : Int32) (r2 : Int32) (p0 : Int32) (p1 : Int32) (p2 : Int32) (d0 : UInt64) (d1 : UInt64) (d2 : UInt64) (h0 : Heap) (n0 : Nat) (v : Option Value) (h : Heap) (L : List Loc) : Prop := v = none ∧ Fr n0 L ∧ Keep h0 h [a5] ∧ (Arv Z h a5 k5 .int (3 : Int32) [(.int (0 : Int32)), (.int (1 : Int32)), (.int (0 : Int32))] (.int (0 : Int32)) ∨ Arv Z h a5 k5 .int (3 : Int32) [(.int (1 : Int32)), (.int (0 : Int32)), (.int (0 : Int32))] (.int (0 : Int32)))
set_option maxRecDepth 65536 in
set_option maxHeartbeats 40000000 in
theorem rm_up13 (l : Launch) (Z : State) (a0 : Array Value) (hw : ∀ d ∈ tables_1, d.before a0 Z = true) (ws : List Jvm.Cond) (o : Addr) (a1 : Addr) (a2 : Addr) (a3 : Addr) (a4 : Addr) (a5 : Addr) (k1 : ClassId) (k2 : ClassId) (k3 : ClassId) (k4 : ClassId) (k5 : ClassId) (c0 : Int32) (c1 : Int32) (c2 : Int32) (r0 : Int32) (r1 : Int32) (r2 : Int32) (p0 : Int32) (p1 : Int32) (p2 : Int32) (d0 : UInt64) (d1 : UInt64) (d2 : UInt64) (h0 : Heap) (n0 : Nat) (Z0 : n0 ≤ h0.size) (E0 : Exa Z h0 o "com/example/prizepath/prizepath/Insertions") (F1 : Fld Z h0 o "com/example/prizepath/prizepath/Insertions" "customers" "[I" (.ref a1)) (F2 : Fld Z h0 o "com/example/prizepath/prizepath/Insertions" "routes" "[I" (.ref a2)) (F3 : Fld Z h0 o "com/example/prizepath/prizepath/Insertions" "places" "[I" (.ref a3)) (F4 : Fld Z h0 o "com/example/prizepath/prizepath/Insertions" "ranks" "[D" (.ref a4)) (F5 : Fld Z h0 o "com/example/prizepath/prizepath/Insertions" "kept" "[I" (.ref a5)) (A1 : Arv Z h0 a1 k1 .int (256 : Int32) [(.int c0), (.int c1), (.int c2)] (.int (0 : Int32))) (A2 : Arv Z h0 a2 k2 .int (256 : Int32) [(.int r0), (.int r1), (.int r2)] (.int (0 : Int32))) (A3 : Arv Z h0 a3 k3 .int (256 : Int32) [(.int p0), (.int p1), (.int p2)] (.int (0 : Int32))) (A4 : Arv Z h0 a4 k4 .double (256 : Int32) [(.double d0), (.double d1), (.double d2)] (.double (0 : UInt64))) (A5 : Arv Z h0 a5 k5 .int (3 : Int32) [(.int (0 : Int32)), (.int (1 : Int32)), (.int (0 : Int32))] (.int (0 : Int32))) (g5 : n0 ≤ a5) (n01 : a1 ≠ a5) (n02 : a2 ≠ a5) (n03 : a3 ≠ a5) (n04 : a4 ≠ a5) (no5 : o ≠ a5) (nd0 : cmpValue (FP.dcmp d0 d0) .l = 0) (nd1 : cmpValue (FP.dcmp d1 d1) .l = 0) (nd2 : cmpValue (FP.dcmp d2 d2) .l = 0) :
    MetFree l (⟨"com/example/prizepath/prizepath/Insertions", "siftUp", "(I)V"⟩ : MethodName) (head1 (Jvm.Cond.code (⟨"com/example/prizepath/prizepath/Insertions", "siftUp", "(I)V"⟩ : MethodName) prog_15_method_9_code 4 none :: ws) ({ frames := 4, cells := 0, slots := 0, locals := 70 } : Room)) (fun aa U => aa = #[(.ref o), (.int (1 : Int32))] ∧ Z.Warmed39 U.vm ∧ U.heap = h0) (fun _ _ _ _ _ => True) (fun _ U ou U' => ∃ v L, ou = .returned v ∧ Q_rm_up13 Z o a1 a2 a3 a4 a5 k1 k2 k3 k4 k5 c0 c1 c2 r0 r1 r2 p0 p1 p2 d0 d1 d2 h0 n0 v U'.heap L ∧ FrameEnd U ou U' L ({ frames := 4, cells := 0, slots := 0, locals := 70 } : Room).cells ({ frames := 4, cells := 0, slots := 0, locals := 70 } : Room).slots) := by
  refine MetFree.of_bodySF (plainFor_of_name own_pn2) hisR ?_
  intro p e s m args below meth c s₁ Bd hml0 hP hK
  obtain ⟨rfl, hZ, hh⟩ := hP
  have hx := Bd.exec
  have hby := Bd.bytes
  have hml : c.maxLocals = 4 := hml0
  have hown : s.vm.findClass "com/example/prizepath/prizepath/Insertions" = some m.cls := findClass_of_methodNamed Bd.named
  have hnm := (name_of_methodNamed Bd.named Bd.method).1
  have X0 : Stand p l e ({ frames := 4, cells := 0, slots := 0, locals := 70 } : Room) s m #[(.ref o), (.int (1 : Int32))] below meth c s₁ [] 0 0 := Stand.of_body Bd
  have e0 : s₁.heap = h0 := by rw [← hh, Bd.state]; rfl
  have N0 := Fr.nil n0
  have K0 := Keep.refl h0 [a5]
  show own_Go p e below (fun o u L => FrameEnd s o u L ({ frames := 4, cells := 0, slots := 0, locals := 70 } : Room).cells ({ frames := 4, cells := 0, slots := 0, locals := 70 } : Room).slots) (Q_rm_up13 Z o a1 a2 a3 a4 a5 k1 k2 k3 k4 k5 c0 c1 c2 r0 r1 r2 p0 p1 p2 d0 d1 d2 h0 n0) (s₁.setTop (entryFrame m #[(.ref o), (.int (1 : Int32))] 4))
  rw [own_ef_rm_up13 m o]
  show own_Go _ _ _ _ _ (State.setTop _ (mkF _ 0 #[.val (.ref o), .val (.int (1 : Int32)), .unset, .unset] []))
  refine own_iloadN X0 hx 1 rfl (hb hby own_d8_0) rfl ?_
  refine own_istoreN X0 hx 2 rfl (hb hby own_d8_1) #[.val (.ref o), .val (.int (1 : Int32)), .val (.int (1 : Int32)), .unset] rfl ?_
  refine own_iloadN X0 hx 3 rfl (hb hby own_d8_2) rfl ?_
  refine own_ifNo X0 hx 6 rfl (hb hby own_d8_3) (by decide) ?_
  refine own_iloadN X0 hx 7 rfl (hb hby own_d8_6) rfl ?_
  refine own_iconst X0 hx 8 rfl (hb hby own_d8_7) (1 : Int32) rfl ?_
  refine own_isub X0 hx 9 rfl (hb hby own_d8_8) (0 : Int32) rfl ?_
  refine own_iconst X0 hx 10 rfl (hb hby own_d8_9) (2 : Int32) rfl ?_
  refine own_idiv X0 hx 11 rfl (hb hby own_d8_10) (by decide) (0 : Int32) rfl ?_
  refine own_istoreN X0 hx 12 rfl (hb hby own_d8_11) #[.val (.ref o), .val (.int (1 : Int32)), .val (.int (1 : Int32)), .val (.int (0 : Int32))] rfl ?_
  refine own_aloadN X0 hx 13 rfl (hb hby own_d8_12) rfl rfl ?_
  refine own_aloadN X0 hx 14 rfl (hb hby own_d8_13) rfl rfl ?_
  refine own_getF X0 hx hZ (host := "") hown (Or.inl (own_hw hw 19 rfl)) Via.refl e0 F5 17 rfl (hb hby own_d8_14) fun T229 X229 e229 => ?_
  refine own_iloadN X229 hx 18 rfl (hb hby own_d8_17) rfl ?_
  refine own_ldI X229 hx hZ e229 A5 ⟨by decide, by decide⟩ (0 : Int32) rfl 19 rfl (hb hby own_d8_18) ?_
  refine own_aloadN X229 hx 20 rfl (hb hby own_d8_19) rfl rfl ?_
  refine own_getF X229 hx hZ (host := "") hown (Or.inl (own_hw hw 19 rfl)) Via.refl e229 F5 23 rfl (hb hby own_d8_20) fun T230 X230 e230 => ?_
  refine own_iloadN X230 hx 24 rfl (hb hby own_d8_23) rfl ?_
  refine own_ldI X230 hx hZ e230 A5 ⟨by decide, by decide⟩ (1 : Int32) rfl 25 rfl (hb hby own_d8_24) ?_
  refine own_private X230 hx hZ (y := (⟨"com/example/prizepath/prizepath/Insertions", "ranksBefore", "(II)Z"⟩ : MethodName)) (z := (⟨"com/example/prizepath/prizepath/Insertions", "clear", "()V"⟩ : MethodName)) hown (own_hw hw 75 rfl) (own_hw hw 76 rfl) rfl (own_hw hw 24 rfl) (own_hw hw 77 rfl) (a := o) E0 (by decide) (rm_rb l Z a0 hw [] o (0 : Int32) (1 : Int32) a1 a2 a3 a4 k1 k2 k3 k4 [(.int c0), (.int c1), (.int c2)] [(.int r0), (.int r1), (.int r2)] [(.int p0), (.int p1), (.int p2)] [(.double d0), (.double d1), (.double d2)] d0 d1 c0 c1 r0 r1 p0 p1 h0 n0 Z0 F1 F2 F3 F4 A1 A2 A3 A4 ⟨by decide, by decide⟩ ⟨by decide, by decide⟩ rfl rfl rfl rfl rfl rfl rfl rfl nd0 nd1) (own_hw hw 78 rfl) (own_hw hw 2 rfl) (by decide) e230 (by rw [hml]; rfl) [(.int (0 : Int32)), (.int (1 : Int32))] 0 (by decide) (Nat.le_of_eq rfl) (by decide) (by decide) (lenOf own_pd4 rfl) rfl rfl 28 rfl (hb hby own_d8_25) fun v231 T231 Lc231 X231 hQ231 => ?_
  obtain ⟨z231, rfl, Nq231, e231, hz231⟩ := hQ231
  have N232 := Fr.app N0 Nq231
  rcases hz231 with rfl | rfl
  ·
    show own_Go _ _ _ _ _ (State.setTop _ (mkF _ 28 #[.val (.ref o), .val (.int (1 : Int32)), .val (.int (1 : Int32)), .val (.int (0 : Int32))] [(.int (0 : Int32))]))
    refine own_ifNo X231 hx 31 rfl (hb hby own_d8_28) (by decide) ?_
    refine own_goto X231 hx 45 (hb hby own_d8_31) (by decide) rfl ?_
    refine own_ret X231 none (fun _ => rfl) Bd.notSynchronized (by decide) (by decide) ?_ (fun fs hr => X231.returnOut hx Bd.returns (hb hby own_d8_45) hr)
    show Q_rm_up13 Z o a1 a2 a3 a4 a5 k1 k2 k3 k4 k5 c0 c1 c2 r0 r1 r2 p0 p1 p2 d0 d1 d2 h0 n0 _ T231.heap _
    rw [e231]
    exact ⟨rfl, N232, K0, Or.inl A5⟩
  ·
    show own_Go _ _ _ _ _ (State.setTop _ (mkF _ 28 #[.val (.ref o), .val (.int (1 : Int32)), .val (.int (1 : Int32)), .val (.int (0 : Int32))] [(.int (1 : Int32))]))
    refine own_ifYes X231 hx 34 (hb hby own_d8_28) (by decide) (by decide) rfl ?_
    refine own_aloadN X231 hx 35 rfl (hb hby own_d8_34) rfl rfl ?_
    refine own_iloadN X231 hx 36 rfl (hb hby own_d8_35) rfl ?_
    refine own_iloadN X231 hx 37 rfl (hb hby own_d8_36) rfl ?_
    refine own_private X231 hx hZ (y := (⟨"com/example/prizepath/prizepath/Insertions", "swapKept", "(II)V"⟩ : MethodName)) (z := (⟨"com/example/prizepath/prizepath/Insertions", "clear", "()V"⟩ : MethodName)) hown (own_hw hw 83 rfl) (own_hw hw 84 rfl) rfl (own_hw hw 24 rfl) (own_hw hw 85 rfl) (a := o) E0 (by decide) (rm_swap13 l Z a0 hw [] o a5 k5 (0 : Int32) (1 : Int32) (0 : Int32) h0 n0 Z0 F5 A5 g5 no5) (own_hw hw 86 rfl) (own_hw hw 2 rfl) (by decide) e231 (by rw [hml]; rfl) [(.int (0 : Int32)), (.int (1 : Int32))] 0 (by decide) (Nat.le_of_eq rfl) (by decide) (by decide) (lenOf own_pd5 rfl) rfl rfl 40 rfl (hb hby own_d8_37) fun v233 T233 Lc233 X233 hQ233 => ?_
    obtain ⟨rfl, Nq233, Kq233, f234⟩ := hQ233
    have N235 := Fr.app N232 Nq233
    have f236 := E0.keep Kq233
    have f237 := F1.keep Kq233 (ninS no5 nin0)
    have f238 := F2.keep Kq233 (ninS no5 nin0)
    have f239 := F3.keep Kq233 (ninS no5 nin0)
    have f240 := F4.keep Kq233 (ninS no5 nin0)
    have f241 := F5.keep Kq233 (ninS no5 nin0)
    have f242 := A1.keep Kq233 (ninS n01 nin0)
    have f243 := A2.keep Kq233 (ninS n02 nin0)
    have f244 := A3.keep Kq233 (ninS n03 nin0)
    have f245 := A4.keep Kq233 (ninS n04 nin0)
    have z247 := Nat.le_trans Z0 Kq233.1
    have K248 := K0.trans Kq233 (allS (Or.inl (List.mem_of_getElem? (i := 0) rfl)) all0)
    show own_Go _ _ _ _ _ (State.setTop _ (mkF _ 40 _ []))
    refine own_iloadN X233 hx 41 rfl (hb hby own_d8_40) rfl ?_
    refine own_istoreN X233 hx 42 rfl (hb hby own_d8_41) #[.val (.ref o), .val (.int (1 : Int32)), .val (.int (0 : Int32)), .val (.int (0 : Int32))] rfl ?_
    refine own_goto X233 hx 2 (hb hby own_d8_42) (by decide) rfl ?_
    refine own_iloadN X233 hx 3 rfl (hb hby own_d8_2) rfl ?_
    refine own_ifYes X233 hx 45 (hb hby own_d8_3) (by decide) (by decide) rfl ?_
    refine own_ret X233 none (fun _ => rfl) Bd.notSynchronized (by decide) (by decide) ?_ (fun fs hr => X233.returnOut hx Bd.returns (hb hby own_d8_45) hr)
    show Q_rm_up13 Z o a1 a2 a3 a4 a5 k1 k2 k3 k4 k5 c0 c1 c2 r0 r1 r2 p0 p1 p2 d0 d1 d2 h0 n0 _ T233.heap _
    exact ⟨rfl, N235, K248, Or.inr f234⟩
theorem own_ef_rm_up23a (m : MethodId) (o : Addr) : entryFrame m #[(.ref o), (.int (2 : Int32))] 4 = mkF m 0 #[.val (.ref o), .val (.int (2 : Int32)), .unset, .unset] [] := by first | (simp [entryFrame, mkF, argsToLocals, Value.category]; done) | rfl
def Q_rm_up23a (Z : State) (o : Addr) (a1 : Addr) (a2 : Addr) (a3 : Addr) (a4 : Addr) (a5 : Addr) (k1 : ClassId) (k2 : ClassId) (k3 : ClassId) (k4 : ClassId) (k5 : ClassId) (c0 : Int32) (c1 : Int32) (c2 : Int32) (r0 : Int32) (r1 : Int32) (r2 : Int32) (p0 : Int32) (p1 : Int32) (p2 : Int32) (d0 : UInt64) (d1 : UInt64) (d2 : UInt64) (h0 : Heap) (n0 : Nat) (v : Option Value) (h : Heap) (L : List Loc) : Prop := v = none ∧ Fr n0 L ∧ Keep h0 h [a5] ∧ (Arv Z h a5 k5 .int (3 : Int32) [(.int (0 : Int32)), (.int (1 : Int32)), (.int (2 : Int32))] (.int (0 : Int32)) ∨ Arv Z h a5 k5 .int (3 : Int32) [(.int (2 : Int32)), (.int (1 : Int32)), (.int (0 : Int32))] (.int (0 : Int32)))
set_option maxRecDepth 65536 in
set_option maxHeartbeats 40000000 in
theorem rm_up23a (l : Launch) (Z : State) (a0 : Array Value) (hw : ∀ d ∈ tables_1, d.before a0 Z = true) (ws : List Jvm.Cond) (o : Addr) (a1 : Addr) (a2 : Addr) (a3 : Addr) (a4 : Addr) (a5 : Addr) (k1 : ClassId) (k2 : ClassId) (k3 : ClassId) (k4 : ClassId) (k5 : ClassId) (c0 : Int32) (c1 : Int32) (c2 : Int32) (r0 : Int32) (r1 : Int32) (r2 : Int32) (p0 : Int32) (p1 : Int32) (p2 : Int32) (d0 : UInt64) (d1 : UInt64) (d2 : UInt64) (h0 : Heap) (n0 : Nat) (Z0 : n0 ≤ h0.size) (E0 : Exa Z h0 o "com/example/prizepath/prizepath/Insertions") (F1 : Fld Z h0 o "com/example/prizepath/prizepath/Insertions" "customers" "[I" (.ref a1)) (F2 : Fld Z h0 o "com/example/prizepath/prizepath/Insertions" "routes" "[I" (.ref a2)) (F3 : Fld Z h0 o "com/example/prizepath/prizepath/Insertions" "places" "[I" (.ref a3)) (F4 : Fld Z h0 o "com/example/prizepath/prizepath/Insertions" "ranks" "[D" (.ref a4)) (F5 : Fld Z h0 o "com/example/prizepath/prizepath/Insertions" "kept" "[I" (.ref a5)) (A1 : Arv Z h0 a1 k1 .int (256 : Int32) [(.int c0), (.int c1), (.int c2)] (.int (0 : Int32))) (A2 : Arv Z h0 a2 k2 .int (256 : Int32) [(.int r0), (.int r1), (.int r2)] (.int (0 : Int32))) (A3 : Arv Z h0 a3 k3 .int (256 : Int32) [(.int p0), (.int p1), (.int p2)] (.int (0 : Int32))) (A4 : Arv Z h0 a4 k4 .double (256 : Int32) [(.double d0), (.double d1), (.double d2)] (.double (0 : UInt64))) (A5 : Arv Z h0 a5 k5 .int (3 : Int32) [(.int (0 : Int32)), (.int (1 : Int32)), (.int (2 : Int32))] (.int (0 : Int32))) (g5 : n0 ≤ a5) (n01 : a1 ≠ a5) (n02 : a2 ≠ a5) (n03 : a3 ≠ a5) (n04 : a4 ≠ a5) (no5 : o ≠ a5) (nd0 : cmpValue (FP.dcmp d0 d0) .l = 0) (nd1 : cmpValue (FP.dcmp d1 d1) .l = 0) (nd2 : cmpValue (FP.dcmp d2 d2) .l = 0) :
    MetFree l (⟨"com/example/prizepath/prizepath/Insertions", "siftUp", "(I)V"⟩ : MethodName) (head1 (Jvm.Cond.code (⟨"com/example/prizepath/prizepath/Insertions", "siftUp", "(I)V"⟩ : MethodName) prog_15_method_9_code 4 none :: ws) ({ frames := 4, cells := 0, slots := 0, locals := 70 } : Room)) (fun aa U => aa = #[(.ref o), (.int (2 : Int32))] ∧ Z.Warmed39 U.vm ∧ U.heap = h0) (fun _ _ _ _ _ => True) (fun _ U ou U' => ∃ v L, ou = .returned v ∧ Q_rm_up23a Z o a1 a2 a3 a4 a5 k1 k2 k3 k4 k5 c0 c1 c2 r0 r1 r2 p0 p1 p2 d0 d1 d2 h0 n0 v U'.heap L ∧ FrameEnd U ou U' L ({ frames := 4, cells := 0, slots := 0, locals := 70 } : Room).cells ({ frames := 4, cells := 0, slots := 0, locals := 70 } : Room).slots) := by
  refine MetFree.of_bodySF (plainFor_of_name own_pn2) hisR ?_
  intro p e s m args below meth c s₁ Bd hml0 hP hK
  obtain ⟨rfl, hZ, hh⟩ := hP
  have hx := Bd.exec
  have hby := Bd.bytes
  have hml : c.maxLocals = 4 := hml0
  have hown : s.vm.findClass "com/example/prizepath/prizepath/Insertions" = some m.cls := findClass_of_methodNamed Bd.named
  have hnm := (name_of_methodNamed Bd.named Bd.method).1
  have X0 : Stand p l e ({ frames := 4, cells := 0, slots := 0, locals := 70 } : Room) s m #[(.ref o), (.int (2 : Int32))] below meth c s₁ [] 0 0 := Stand.of_body Bd
  have e0 : s₁.heap = h0 := by rw [← hh, Bd.state]; rfl
  have N0 := Fr.nil n0
  have K0 := Keep.refl h0 [a5]
  show own_Go p e below (fun o u L => FrameEnd s o u L ({ frames := 4, cells := 0, slots := 0, locals := 70 } : Room).cells ({ frames := 4, cells := 0, slots := 0, locals := 70 } : Room).slots) (Q_rm_up23a Z o a1 a2 a3 a4 a5 k1 k2 k3 k4 k5 c0 c1 c2 r0 r1 r2 p0 p1 p2 d0 d1 d2 h0 n0) (s₁.setTop (entryFrame m #[(.ref o), (.int (2 : Int32))] 4))
  rw [own_ef_rm_up23a m o]
  show own_Go _ _ _ _ _ (State.setTop _ (mkF _ 0 #[.val (.ref o), .val (.int (2 : Int32)), .unset, .unset] []))
  refine own_iloadN X0 hx 1 rfl (hb hby own_d8_0) rfl ?_
  refine own_istoreN X0 hx 2 rfl (hb hby own_d8_1) #[.val (.ref o), .val (.int (2 : Int32)), .val (.int (2 : Int32)), .unset] rfl ?_
  refine own_iloadN X0 hx 3 rfl (hb hby own_d8_2) rfl ?_
  refine own_ifNo X0 hx 6 rfl (hb hby own_d8_3) (by decide) ?_
  refine own_iloadN X0 hx 7 rfl (hb hby own_d8_6) rfl ?_
  refine own_iconst X0 hx 8 rfl (hb hby own_d8_7) (1 : Int32) rfl ?_
  refine own_isub X0 hx 9 rfl (hb hby own_d8_8) (1 : Int32) rfl ?_
  refine own_iconst X0 hx 10 rfl (hb hby own_d8_9) (2 : Int32) rfl ?_
  refine own_idiv X0 hx 11 rfl (hb hby own_d8_10) (by decide) (0 : Int32) rfl ?_
  refine own_istoreN X0 hx 12 rfl (hb hby own_d8_11) #[.val (.ref o), .val (.int (2 : Int32)), .val (.int (2 : Int32)), .val (.int (0 : Int32))] rfl ?_
  refine own_aloadN X0 hx 13 rfl (hb hby own_d8_12) rfl rfl ?_
  refine own_aloadN X0 hx 14 rfl (hb hby own_d8_13) rfl rfl ?_
  refine own_getF X0 hx hZ (host := "") hown (Or.inl (own_hw hw 19 rfl)) Via.refl e0 F5 17 rfl (hb hby own_d8_14) fun T249 X249 e249 => ?_
  refine own_iloadN X249 hx 18 rfl (hb hby own_d8_17) rfl ?_
  refine own_ldI X249 hx hZ e249 A5 ⟨by decide, by decide⟩ (0 : Int32) rfl 19 rfl (hb hby own_d8_18) ?_
  refine own_aloadN X249 hx 20 rfl (hb hby own_d8_19) rfl rfl ?_
  refine own_getF X249 hx hZ (host := "") hown (Or.inl (own_hw hw 19 rfl)) Via.refl e249 F5 23 rfl (hb hby own_d8_20) fun T250 X250 e250 => ?_
  refine own_iloadN X250 hx 24 rfl (hb hby own_d8_23) rfl ?_
  refine own_ldI X250 hx hZ e250 A5 ⟨by decide, by decide⟩ (2 : Int32) rfl 25 rfl (hb hby own_d8_24) ?_
  refine own_private X250 hx hZ (y := (⟨"com/example/prizepath/prizepath/Insertions", "ranksBefore", "(II)Z"⟩ : MethodName)) (z := (⟨"com/example/prizepath/prizepath/Insertions", "clear", "()V"⟩ : MethodName)) hown (own_hw hw 75 rfl) (own_hw hw 76 rfl) rfl (own_hw hw 24 rfl) (own_hw hw 77 rfl) (a := o) E0 (by decide) (rm_rb l Z a0 hw [] o (0 : Int32) (2 : Int32) a1 a2 a3 a4 k1 k2 k3 k4 [(.int c0), (.int c1), (.int c2)] [(.int r0), (.int r1), (.int r2)] [(.int p0), (.int p1), (.int p2)] [(.double d0), (.double d1), (.double d2)] d0 d2 c0 c2 r0 r2 p0 p2 h0 n0 Z0 F1 F2 F3 F4 A1 A2 A3 A4 ⟨by decide, by decide⟩ ⟨by decide, by decide⟩ rfl rfl rfl rfl rfl rfl rfl rfl nd0 nd2) (own_hw hw 78 rfl) (own_hw hw 2 rfl) (by decide) e250 (by rw [hml]; rfl) [(.int (0 : Int32)), (.int (2 : Int32))] 0 (by decide) (Nat.le_of_eq rfl) (by decide) (by decide) (lenOf own_pd4 rfl) rfl rfl 28 rfl (hb hby own_d8_25) fun v251 T251 Lc251 X251 hQ251 => ?_
  obtain ⟨z251, rfl, Nq251, e251, hz251⟩ := hQ251
  have N252 := Fr.app N0 Nq251
  rcases hz251 with rfl | rfl
  ·
    show own_Go _ _ _ _ _ (State.setTop _ (mkF _ 28 #[.val (.ref o), .val (.int (2 : Int32)), .val (.int (2 : Int32)), .val (.int (0 : Int32))] [(.int (0 : Int32))]))
    refine own_ifNo X251 hx 31 rfl (hb hby own_d8_28) (by decide) ?_
    refine own_goto X251 hx 45 (hb hby own_d8_31) (by decide) rfl ?_
    refine own_ret X251 none (fun _ => rfl) Bd.notSynchronized (by decide) (by decide) ?_ (fun fs hr => X251.returnOut hx Bd.returns (hb hby own_d8_45) hr)
    show Q_rm_up23a Z o a1 a2 a3 a4 a5 k1 k2 k3 k4 k5 c0 c1 c2 r0 r1 r2 p0 p1 p2 d0 d1 d2 h0 n0 _ T251.heap _
    rw [e251]
    exact ⟨rfl, N252, K0, Or.inl A5⟩
  ·
    show own_Go _ _ _ _ _ (State.setTop _ (mkF _ 28 #[.val (.ref o), .val (.int (2 : Int32)), .val (.int (2 : Int32)), .val (.int (0 : Int32))] [(.int (1 : Int32))]))
    refine own_ifYes X251 hx 34 (hb hby own_d8_28) (by decide) (by decide) rfl ?_
    refine own_aloadN X251 hx 35 rfl (hb hby own_d8_34) rfl rfl ?_
    refine own_iloadN X251 hx 36 rfl (hb hby own_d8_35) rfl ?_
    refine own_iloadN X251 hx 37 rfl (hb hby own_d8_36) rfl ?_
    refine own_private X251 hx hZ (y := (⟨"com/example/prizepath/prizepath/Insertions", "swapKept", "(II)V"⟩ : MethodName)) (z := (⟨"com/example/prizepath/prizepath/Insertions", "clear", "()V"⟩ : MethodName)) hown (own_hw hw 83 rfl) (own_hw hw 84 rfl) rfl (own_hw hw 24 rfl) (own_hw hw 85 rfl) (a := o) E0 (by decide) (rm_swap23 l Z a0 hw [] o a5 k5 (0 : Int32) (1 : Int32) (2 : Int32) h0 n0 Z0 F5 A5 g5 no5) (own_hw hw 86 rfl) (own_hw hw 2 rfl) (by decide) e251 (by rw [hml]; rfl) [(.int (0 : Int32)), (.int (2 : Int32))] 0 (by decide) (Nat.le_of_eq rfl) (by decide) (by decide) (lenOf own_pd5 rfl) rfl rfl 40 rfl (hb hby own_d8_37) fun v253 T253 Lc253 X253 hQ253 => ?_
    obtain ⟨rfl, Nq253, Kq253, f254⟩ := hQ253
    have N255 := Fr.app N252 Nq253
    have f256 := E0.keep Kq253
    have f257 := F1.keep Kq253 (ninS no5 nin0)
    have f258 := F2.keep Kq253 (ninS no5 nin0)
    have f259 := F3.keep Kq253 (ninS no5 nin0)
    have f260 := F4.keep Kq253 (ninS no5 nin0)
    have f261 := F5.keep Kq253 (ninS no5 nin0)
    have f262 := A1.keep Kq253 (ninS n01 nin0)
    have f263 := A2.keep Kq253 (ninS n02 nin0)
    have f264 := A3.keep Kq253 (ninS n03 nin0)
    have f265 := A4.keep Kq253 (ninS n04 nin0)
    have z267 := Nat.le_trans Z0 Kq253.1
    have K268 := K0.trans Kq253 (allS (Or.inl (List.mem_of_getElem? (i := 0) rfl)) all0)
    show own_Go _ _ _ _ _ (State.setTop _ (mkF _ 40 _ []))
    refine own_iloadN X253 hx 41 rfl (hb hby own_d8_40) rfl ?_
    refine own_istoreN X253 hx 42 rfl (hb hby own_d8_41) #[.val (.ref o), .val (.int (2 : Int32)), .val (.int (0 : Int32)), .val (.int (0 : Int32))] rfl ?_
    refine own_goto X253 hx 2 (hb hby own_d8_42) (by decide) rfl ?_
    refine own_iloadN X253 hx 3 rfl (hb hby own_d8_2) rfl ?_
    refine own_ifYes X253 hx 45 (hb hby own_d8_3) (by decide) (by decide) rfl ?_
    refine own_ret X253 none (fun _ => rfl) Bd.notSynchronized (by decide) (by decide) ?_ (fun fs hr => X253.returnOut hx Bd.returns (hb hby own_d8_45) hr)
    show Q_rm_up23a Z o a1 a2 a3 a4 a5 k1 k2 k3 k4 k5 c0 c1 c2 r0 r1 r2 p0 p1 p2 d0 d1 d2 h0 n0 _ T253.heap _
    exact ⟨rfl, N255, K268, Or.inr f254⟩
theorem own_ef_rm_up23b (m : MethodId) (o : Addr) : entryFrame m #[(.ref o), (.int (2 : Int32))] 4 = mkF m 0 #[.val (.ref o), .val (.int (2 : Int32)), .unset, .unset] [] := by first | (simp [entryFrame, mkF, argsToLocals, Value.category]; done) | rfl
def Q_rm_up23b (Z : State) (o : Addr) (a1 : Addr) (a2 : Addr) (a3 : Addr) (a4 : Addr) (a5 : Addr) (k1 : ClassId) (k2 : ClassId) (k3 : ClassId) (k4 : ClassId) (k5 : ClassId) (c0 : Int32) (c1 : Int32) (c2 : Int32) (r0 : Int32) (r1 : Int32) (r2 : Int32) (p0 : Int32) (p1 : Int32) (p2 : Int32) (d0 : UInt64) (d1 : UInt64) (d2 : UInt64) (h0 : Heap) (n0 : Nat) (v : Option Value) (h : Heap) (L : List Loc) : Prop := v = none ∧ Fr n0 L ∧ Keep h0 h [a5] ∧ (Arv Z h a5 k5 .int (3 : Int32) [(.int (1 : Int32)), (.int (0 : Int32)), (.int (2 : Int32))] (.int (0 : Int32)) ∨ Arv Z h a5 k5 .int (3 : Int32) [(.int (2 : Int32)), (.int (0 : Int32)), (.int (1 : Int32))] (.int (0 : Int32)))
set_option maxRecDepth 65536 in
set_option maxHeartbeats 40000000 in
theorem rm_up23b (l : Launch) (Z : State) (a0 : Array Value) (hw : ∀ d ∈ tables_1, d.before a0 Z = true) (ws : List Jvm.Cond) (o : Addr) (a1 : Addr) (a2 : Addr) (a3 : Addr) (a4 : Addr) (a5 : Addr) (k1 : ClassId) (k2 : ClassId) (k3 : ClassId) (k4 : ClassId) (k5 : ClassId) (c0 : Int32) (c1 : Int32) (c2 : Int32) (r0 : Int32) (r1 : Int32) (r2 : Int32) (p0 : Int32) (p1 : Int32) (p2 : Int32) (d0 : UInt64) (d1 : UInt64) (d2 : UInt64) (h0 : Heap) (n0 : Nat) (Z0 : n0 ≤ h0.size) (E0 : Exa Z h0 o "com/example/prizepath/prizepath/Insertions") (F1 : Fld Z h0 o "com/example/prizepath/prizepath/Insertions" "customers" "[I" (.ref a1)) (F2 : Fld Z h0 o "com/example/prizepath/prizepath/Insertions" "routes" "[I" (.ref a2)) (F3 : Fld Z h0 o "com/example/prizepath/prizepath/Insertions" "places" "[I" (.ref a3)) (F4 : Fld Z h0 o "com/example/prizepath/prizepath/Insertions" "ranks" "[D" (.ref a4)) (F5 : Fld Z h0 o "com/example/prizepath/prizepath/Insertions" "kept" "[I" (.ref a5)) (A1 : Arv Z h0 a1 k1 .int (256 : Int32) [(.int c0), (.int c1), (.int c2)] (.int (0 : Int32))) (A2 : Arv Z h0 a2 k2 .int (256 : Int32) [(.int r0), (.int r1), (.int r2)] (.int (0 : Int32))) (A3 : Arv Z h0 a3 k3 .int (256 : Int32) [(.int p0), (.int p1), (.int p2)] (.int (0 : Int32))) (A4 : Arv Z h0 a4 k4 .double (256 : Int32) [(.double d0), (.double d1), (.double d2)] (.double (0 : UInt64))) (A5 : Arv Z h0 a5 k5 .int (3 : Int32) [(.int (1 : Int32)), (.int (0 : Int32)), (.int (2 : Int32))] (.int (0 : Int32))) (g5 : n0 ≤ a5) (n01 : a1 ≠ a5) (n02 : a2 ≠ a5) (n03 : a3 ≠ a5) (n04 : a4 ≠ a5) (no5 : o ≠ a5) (nd0 : cmpValue (FP.dcmp d0 d0) .l = 0) (nd1 : cmpValue (FP.dcmp d1 d1) .l = 0) (nd2 : cmpValue (FP.dcmp d2 d2) .l = 0) :
    MetFree l (⟨"com/example/prizepath/prizepath/Insertions", "siftUp", "(I)V"⟩ : MethodName) (head1 (Jvm.Cond.code (⟨"com/example/prizepath/prizepath/Insertions", "siftUp", "(I)V"⟩ : MethodName) prog_15_method_9_code 4 none :: ws) ({ frames := 4, cells := 0, slots := 0, locals := 70 } : Room)) (fun aa U => aa = #[(.ref o), (.int (2 : Int32))] ∧ Z.Warmed39 U.vm ∧ U.heap = h0) (fun _ _ _ _ _ => True) (fun _ U ou U' => ∃ v L, ou = .returned v ∧ Q_rm_up23b Z o a1 a2 a3 a4 a5 k1 k2 k3 k4 k5 c0 c1 c2 r0 r1 r2 p0 p1 p2 d0 d1 d2 h0 n0 v U'.heap L ∧ FrameEnd U ou U' L ({ frames := 4, cells := 0, slots := 0, locals := 70 } : Room).cells ({ frames := 4, cells := 0, slots := 0, locals := 70 } : Room).slots) := by
  refine MetFree.of_bodySF (plainFor_of_name own_pn2) hisR ?_
  intro p e s m args below meth c s₁ Bd hml0 hP hK
  obtain ⟨rfl, hZ, hh⟩ := hP
  have hx := Bd.exec
  have hby := Bd.bytes
  have hml : c.maxLocals = 4 := hml0
  have hown : s.vm.findClass "com/example/prizepath/prizepath/Insertions" = some m.cls := findClass_of_methodNamed Bd.named
  have hnm := (name_of_methodNamed Bd.named Bd.method).1
  have X0 : Stand p l e ({ frames := 4, cells := 0, slots := 0, locals := 70 } : Room) s m #[(.ref o), (.int (2 : Int32))] below meth c s₁ [] 0 0 := Stand.of_body Bd
  have e0 : s₁.heap = h0 := by rw [← hh, Bd.state]; rfl
  have N0 := Fr.nil n0
  have K0 := Keep.refl h0 [a5]
  show own_Go p e below (fun o u L => FrameEnd s o u L ({ frames := 4, cells := 0, slots := 0, locals := 70 } : Room).cells ({ frames := 4, cells := 0, slots := 0, locals := 70 } : Room).slots) (Q_rm_up23b Z o a1 a2 a3 a4 a5 k1 k2 k3 k4 k5 c0 c1 c2 r0 r1 r2 p0 p1 p2 d0 d1 d2 h0 n0) (s₁.setTop (entryFrame m #[(.ref o), (.int (2 : Int32))] 4))
  rw [own_ef_rm_up23b m o]
  show own_Go _ _ _ _ _ (State.setTop _ (mkF _ 0 #[.val (.ref o), .val (.int (2 : Int32)), .unset, .unset] []))
  refine own_iloadN X0 hx 1 rfl (hb hby own_d8_0) rfl ?_
  refine own_istoreN X0 hx 2 rfl (hb hby own_d8_1) #[.val (.ref o), .val (.int (2 : Int32)), .val (.int (2 : Int32)), .unset] rfl ?_
  refine own_iloadN X0 hx 3 rfl (hb hby own_d8_2) rfl ?_
  refine own_ifNo X0 hx 6 rfl (hb hby own_d8_3) (by decide) ?_
  refine own_iloadN X0 hx 7 rfl (hb hby own_d8_6) rfl ?_
  refine own_iconst X0 hx 8 rfl (hb hby own_d8_7) (1 : Int32) rfl ?_
  refine own_isub X0 hx 9 rfl (hb hby own_d8_8) (1 : Int32) rfl ?_
  refine own_iconst X0 hx 10 rfl (hb hby own_d8_9) (2 : Int32) rfl ?_
  refine own_idiv X0 hx 11 rfl (hb hby own_d8_10) (by decide) (0 : Int32) rfl ?_
  refine own_istoreN X0 hx 12 rfl (hb hby own_d8_11) #[.val (.ref o), .val (.int (2 : Int32)), .val (.int (2 : Int32)), .val (.int (0 : Int32))] rfl ?_
  refine own_aloadN X0 hx 13 rfl (hb hby own_d8_12) rfl rfl ?_
  refine own_aloadN X0 hx 14 rfl (hb hby own_d8_13) rfl rfl ?_
  refine own_getF X0 hx hZ (host := "") hown (Or.inl (own_hw hw 19 rfl)) Via.refl e0 F5 17 rfl (hb hby own_d8_14) fun T269 X269 e269 => ?_
  refine own_iloadN X269 hx 18 rfl (hb hby own_d8_17) rfl ?_
  refine own_ldI X269 hx hZ e269 A5 ⟨by decide, by decide⟩ (1 : Int32) rfl 19 rfl (hb hby own_d8_18) ?_
  refine own_aloadN X269 hx 20 rfl (hb hby own_d8_19) rfl rfl ?_
  refine own_getF X269 hx hZ (host := "") hown (Or.inl (own_hw hw 19 rfl)) Via.refl e269 F5 23 rfl (hb hby own_d8_20) fun T270 X270 e270 => ?_
  refine own_iloadN X270 hx 24 rfl (hb hby own_d8_23) rfl ?_
  refine own_ldI X270 hx hZ e270 A5 ⟨by decide, by decide⟩ (2 : Int32) rfl 25 rfl (hb hby own_d8_24) ?_
  refine own_private X270 hx hZ (y := (⟨"com/example/prizepath/prizepath/Insertions", "ranksBefore", "(II)Z"⟩ : MethodName)) (z := (⟨"com/example/prizepath/prizepath/Insertions", "clear", "()V"⟩ : MethodName)) hown (own_hw hw 75 rfl) (own_hw hw 76 rfl) rfl (own_hw hw 24 rfl) (own_hw hw 77 rfl) (a := o) E0 (by decide) (rm_rb l Z a0 hw [] o (1 : Int32) (2 : Int32) a1 a2 a3 a4 k1 k2 k3 k4 [(.int c0), (.int c1), (.int c2)] [(.int r0), (.int r1), (.int r2)] [(.int p0), (.int p1), (.int p2)] [(.double d0), (.double d1), (.double d2)] d1 d2 c1 c2 r1 r2 p1 p2 h0 n0 Z0 F1 F2 F3 F4 A1 A2 A3 A4 ⟨by decide, by decide⟩ ⟨by decide, by decide⟩ rfl rfl rfl rfl rfl rfl rfl rfl nd1 nd2) (own_hw hw 78 rfl) (own_hw hw 2 rfl) (by decide) e270 (by rw [hml]; rfl) [(.int (1 : Int32)), (.int (2 : Int32))] 0 (by decide) (Nat.le_of_eq rfl) (by decide) (by decide) (lenOf own_pd4 rfl) rfl rfl 28 rfl (hb hby own_d8_25) fun v271 T271 Lc271 X271 hQ271 => ?_
  obtain ⟨z271, rfl, Nq271, e271, hz271⟩ := hQ271
  have N272 := Fr.app N0 Nq271
  rcases hz271 with rfl | rfl
  ·
    show own_Go _ _ _ _ _ (State.setTop _ (mkF _ 28 #[.val (.ref o), .val (.int (2 : Int32)), .val (.int (2 : Int32)), .val (.int (0 : Int32))] [(.int (0 : Int32))]))
    refine own_ifNo X271 hx 31 rfl (hb hby own_d8_28) (by decide) ?_
    refine own_goto X271 hx 45 (hb hby own_d8_31) (by decide) rfl ?_
    refine own_ret X271 none (fun _ => rfl) Bd.notSynchronized (by decide) (by decide) ?_ (fun fs hr => X271.returnOut hx Bd.returns (hb hby own_d8_45) hr)
    show Q_rm_up23b Z o a1 a2 a3 a4 a5 k1 k2 k3 k4 k5 c0 c1 c2 r0 r1 r2 p0 p1 p2 d0 d1 d2 h0 n0 _ T271.heap _
    rw [e271]
    exact ⟨rfl, N272, K0, Or.inl A5⟩
  ·
    show own_Go _ _ _ _ _ (State.setTop _ (mkF _ 28 #[.val (.ref o), .val (.int (2 : Int32)), .val (.int (2 : Int32)), .val (.int (0 : Int32))] [(.int (1 : Int32))]))
    refine own_ifYes X271 hx 34 (hb hby own_d8_28) (by decide) (by decide) rfl ?_
    refine own_aloadN X271 hx 35 rfl (hb hby own_d8_34) rfl rfl ?_
    refine own_iloadN X271 hx 36 rfl (hb hby own_d8_35) rfl ?_
    refine own_iloadN X271 hx 37 rfl (hb hby own_d8_36) rfl ?_
    refine own_private X271 hx hZ (y := (⟨"com/example/prizepath/prizepath/Insertions", "swapKept", "(II)V"⟩ : MethodName)) (z := (⟨"com/example/prizepath/prizepath/Insertions", "clear", "()V"⟩ : MethodName)) hown (own_hw hw 83 rfl) (own_hw hw 84 rfl) rfl (own_hw hw 24 rfl) (own_hw hw 85 rfl) (a := o) E0 (by decide) (rm_swap23 l Z a0 hw [] o a5 k5 (1 : Int32) (0 : Int32) (2 : Int32) h0 n0 Z0 F5 A5 g5 no5) (own_hw hw 86 rfl) (own_hw hw 2 rfl) (by decide) e271 (by rw [hml]; rfl) [(.int (0 : Int32)), (.int (2 : Int32))] 0 (by decide) (Nat.le_of_eq rfl) (by decide) (by decide) (lenOf own_pd5 rfl) rfl rfl 40 rfl (hb hby own_d8_37) fun v273 T273 Lc273 X273 hQ273 => ?_
    obtain ⟨rfl, Nq273, Kq273, f274⟩ := hQ273
    have N275 := Fr.app N272 Nq273
    have f276 := E0.keep Kq273
    have f277 := F1.keep Kq273 (ninS no5 nin0)
    have f278 := F2.keep Kq273 (ninS no5 nin0)
    have f279 := F3.keep Kq273 (ninS no5 nin0)
    have f280 := F4.keep Kq273 (ninS no5 nin0)
    have f281 := F5.keep Kq273 (ninS no5 nin0)
    have f282 := A1.keep Kq273 (ninS n01 nin0)
    have f283 := A2.keep Kq273 (ninS n02 nin0)
    have f284 := A3.keep Kq273 (ninS n03 nin0)
    have f285 := A4.keep Kq273 (ninS n04 nin0)
    have z287 := Nat.le_trans Z0 Kq273.1
    have K288 := K0.trans Kq273 (allS (Or.inl (List.mem_of_getElem? (i := 0) rfl)) all0)
    show own_Go _ _ _ _ _ (State.setTop _ (mkF _ 40 _ []))
    refine own_iloadN X273 hx 41 rfl (hb hby own_d8_40) rfl ?_
    refine own_istoreN X273 hx 42 rfl (hb hby own_d8_41) #[.val (.ref o), .val (.int (2 : Int32)), .val (.int (0 : Int32)), .val (.int (0 : Int32))] rfl ?_
    refine own_goto X273 hx 2 (hb hby own_d8_42) (by decide) rfl ?_
    refine own_iloadN X273 hx 3 rfl (hb hby own_d8_2) rfl ?_
    refine own_ifYes X273 hx 45 (hb hby own_d8_3) (by decide) (by decide) rfl ?_
    refine own_ret X273 none (fun _ => rfl) Bd.notSynchronized (by decide) (by decide) ?_ (fun fs hr => X273.returnOut hx Bd.returns (hb hby own_d8_45) hr)
    show Q_rm_up23b Z o a1 a2 a3 a4 a5 k1 k2 k3 k4 k5 c0 c1 c2 r0 r1 r2 p0 p1 p2 d0 d1 d2 h0 n0 _ T273.heap _
    exact ⟨rfl, N275, K288, Or.inr f274⟩
theorem own_ef_rm_dn1 (m : MethodId) (o : Addr) : entryFrame m #[(.ref o), (.int (1 : Int32))] 4 = mkF m 0 #[.val (.ref o), .val (.int (1 : Int32)), .unset, .unset] [] := by first | (simp [entryFrame, mkF, argsToLocals, Value.category]; done) | rfl
def Q_rm_dn1 (Z : State) (o : Addr) (h0 : Heap) (n0 : Nat) (v : Option Value) (h : Heap) (L : List Loc) : Prop := v = none ∧ Fr n0 L ∧ h = h0
theorem own_d15_0 : decode prog_15_method_10_code 0 = .ok (.iconst 0, 1) := by decide +kernel
theorem own_d15_1 : decode prog_15_method_10_code 1 = .ok (.istore_n 2, 1) := by decide +kernel
theorem own_d15_2 : decode prog_15_method_10_code 2 = .ok (.iconst 2, 1) := by decide +kernel
theorem own_d15_3 : decode prog_15_method_10_code 3 = .ok (.iload_n 2, 1) := by decide +kernel
theorem own_d15_4 : decode prog_15_method_10_code 4 = .ok (.imul, 1) := by decide +kernel
theorem own_d15_5 : decode prog_15_method_10_code 5 = .ok (.iconst 1, 1) := by decide +kernel
theorem own_d15_6 : decode prog_15_method_10_code 6 = .ok (.iadd, 1) := by decide +kernel
theorem own_d15_7 : decode prog_15_method_10_code 7 = .ok (.iload_n 1, 1) := by decide +kernel
theorem own_d15_8 : decode prog_15_method_10_code 8 = .ok (.if_icmp .ge 73, 3) := by decide +kernel
theorem own_d15_81 : decode prog_15_method_10_code 81 = .ok (.return_, 1) := by decide +kernel
set_option maxRecDepth 65536 in
set_option maxHeartbeats 40000000 in
theorem rm_dn1 (l : Launch) (Z : State) (a0 : Array Value) (hw : ∀ d ∈ tables_1, d.before a0 Z = true) (ws : List Jvm.Cond) (o : Addr) (h0 : Heap) (n0 : Nat) (Z0 : n0 ≤ h0.size)  :
    MetFree l (⟨"com/example/prizepath/prizepath/Insertions", "siftDown", "(I)V"⟩ : MethodName) (head1 (Jvm.Cond.code (⟨"com/example/prizepath/prizepath/Insertions", "siftDown", "(I)V"⟩ : MethodName) prog_15_method_10_code 4 none :: ws) ({ frames := 0, cells := 0, slots := 0, locals := 0 } : Room)) (fun aa U => aa = #[(.ref o), (.int (1 : Int32))] ∧ Z.Warmed39 U.vm ∧ U.heap = h0) (fun _ _ _ _ _ => True) (fun _ U ou U' => ∃ v L, ou = .returned v ∧ Q_rm_dn1 Z o h0 n0 v U'.heap L ∧ FrameEnd U ou U' L ({ frames := 0, cells := 0, slots := 0, locals := 0 } : Room).cells ({ frames := 0, cells := 0, slots := 0, locals := 0 } : Room).slots) := by
  refine MetFree.of_bodySF (plainFor_of_name own_pn2) hisR ?_
  intro p e s m args below meth c s₁ Bd hml0 hP hK
  obtain ⟨rfl, hZ, hh⟩ := hP
  have hx := Bd.exec
  have hby := Bd.bytes
  have hml : c.maxLocals = 4 := hml0
  have hown : s.vm.findClass "com/example/prizepath/prizepath/Insertions" = some m.cls := findClass_of_methodNamed Bd.named
  have hnm := (name_of_methodNamed Bd.named Bd.method).1
  have X0 : Stand p l e ({ frames := 0, cells := 0, slots := 0, locals := 0 } : Room) s m #[(.ref o), (.int (1 : Int32))] below meth c s₁ [] 0 0 := Stand.of_body Bd
  have e0 : s₁.heap = h0 := by rw [← hh, Bd.state]; rfl
  have N0 := Fr.nil n0
  show own_Go p e below (fun o u L => FrameEnd s o u L ({ frames := 0, cells := 0, slots := 0, locals := 0 } : Room).cells ({ frames := 0, cells := 0, slots := 0, locals := 0 } : Room).slots) (Q_rm_dn1 Z o h0 n0) (s₁.setTop (entryFrame m #[(.ref o), (.int (1 : Int32))] 4))
  rw [own_ef_rm_dn1 m o]
  show own_Go _ _ _ _ _ (State.setTop _ (mkF _ 0 #[.val (.ref o), .val (.int (1 : Int32)), .unset, .unset] []))
  refine own_iconst X0 hx 1 rfl (hb hby own_d15_0) (0 : Int32) rfl ?_
  refine own_istoreN X0 hx 2 rfl (hb hby own_d15_1) #[.val (.ref o), .val (.int (1 : Int32)), .val (.int (0 : Int32)), .unset] rfl ?_
  refine own_iconst X0 hx 3 rfl (hb hby own_d15_2) (2 : Int32) rfl ?_
  refine own_iloadN X0 hx 4 rfl (hb hby own_d15_3) rfl ?_
  refine own_imul X0 hx 5 rfl (hb hby own_d15_4) (0 : Int32) rfl ?_
  refine own_iconst X0 hx 6 rfl (hb hby own_d15_5) (1 : Int32) rfl ?_
  refine own_iadd X0 hx 7 rfl (hb hby own_d15_6) (1 : Int32) rfl ?_
  refine own_iloadN X0 hx 8 rfl (hb hby own_d15_7) rfl ?_
  refine own_icmpYes X0 hx 81 (hb hby own_d15_8) (by decide) (by decide) rfl ?_
  refine own_ret X0 none (fun _ => rfl) Bd.notSynchronized (by decide) (by decide) ?_ (fun fs hr => X0.returnOut hx Bd.returns (hb hby own_d15_81) hr)
  show Q_rm_dn1 Z o h0 n0 _ s₁.heap _
  rw [e0]
  exact ⟨rfl, N0, rfl⟩
theorem own_ef_rm_dn2a (m : MethodId) (o : Addr) : entryFrame m #[(.ref o), (.int (2 : Int32))] 4 = mkF m 0 #[.val (.ref o), .val (.int (2 : Int32)), .unset, .unset] [] := by first | (simp [entryFrame, mkF, argsToLocals, Value.category]; done) | rfl
def Q_rm_dn2a (Z : State) (o : Addr) (a1 : Addr) (a2 : Addr) (a3 : Addr) (a4 : Addr) (a5 : Addr) (k1 : ClassId) (k2 : ClassId) (k3 : ClassId) (k4 : ClassId) (k5 : ClassId) (c0 : Int32) (c1 : Int32) (c2 : Int32) (r0 : Int32) (r1 : Int32) (r2 : Int32) (p0 : Int32) (p1 : Int32) (p2 : Int32) (d0 : UInt64) (d1 : UInt64) (d2 : UInt64) (h0 : Heap) (n0 : Nat) (v : Option Value) (h : Heap) (L : List Loc) : Prop := v = none ∧ Fr n0 L ∧ Keep h0 h [a5] ∧ (Arv Z h a5 k5 .int (2 : Int32) [(.int (2 : Int32)), (.int (1 : Int32))] (.int (0 : Int32)) ∨ Arv Z h a5 k5 .int (2 : Int32) [(.int (1 : Int32)), (.int (2 : Int32))] (.int (0 : Int32)))
theorem own_d15_11 : decode prog_15_method_10_code 11 = .ok (.iconst 2, 1) := by decide +kernel
theorem own_d15_12 : decode prog_15_method_10_code 12 = .ok (.iload_n 2, 1) := by decide +kernel
theorem own_d15_13 : decode prog_15_method_10_code 13 = .ok (.imul, 1) := by decide +kernel
theorem own_d15_14 : decode prog_15_method_10_code 14 = .ok (.iconst 1, 1) := by decide +kernel
theorem own_d15_15 : decode prog_15_method_10_code 15 = .ok (.iadd, 1) := by decide +kernel
theorem own_d15_16 : decode prog_15_method_10_code 16 = .ok (.istore_n 3, 1) := by decide +kernel
theorem own_d15_17 : decode prog_15_method_10_code 17 = .ok (.iload_n 3, 1) := by decide +kernel
theorem own_d15_18 : decode prog_15_method_10_code 18 = .ok (.iconst 1, 1) := by decide +kernel
theorem own_d15_19 : decode prog_15_method_10_code 19 = .ok (.iadd, 1) := by decide +kernel
theorem own_d15_20 : decode prog_15_method_10_code 20 = .ok (.iload_n 1, 1) := by decide +kernel
theorem own_d15_21 : decode prog_15_method_10_code 21 = .ok (.if_icmp .ge 27, 3) := by decide +kernel
theorem own_d15_48 : decode prog_15_method_10_code 48 = .ok (.aload_n 0, 1) := by decide +kernel
theorem own_d15_49 : decode prog_15_method_10_code 49 = .ok (.aload_n 0, 1) := by decide +kernel
theorem own_d15_50 : decode prog_15_method_10_code 50 = .ok (.getfield 25, 3) := by decide +kernel
theorem own_d15_53 : decode prog_15_method_10_code 53 = .ok (.iload_n 2, 1) := by decide +kernel
theorem own_d15_54 : decode prog_15_method_10_code 54 = .ok (.iaload, 1) := by decide +kernel
theorem own_d15_55 : decode prog_15_method_10_code 55 = .ok (.aload_n 0, 1) := by decide +kernel
theorem own_d15_56 : decode prog_15_method_10_code 56 = .ok (.getfield 25, 3) := by decide +kernel
theorem own_d15_59 : decode prog_15_method_10_code 59 = .ok (.iload_n 3, 1) := by decide +kernel
theorem own_d15_60 : decode prog_15_method_10_code 60 = .ok (.iaload, 1) := by decide +kernel
theorem own_d15_61 : decode prog_15_method_10_code 61 = .ok (.invokevirtual 54, 3) := by decide +kernel
theorem own_d15_64 : decode prog_15_method_10_code 64 = .ok (.ifCond .ne 6, 3) := by decide +kernel
theorem own_d15_67 : decode prog_15_method_10_code 67 = .ok (.goto 14, 3) := by decide +kernel
theorem own_d15_70 : decode prog_15_method_10_code 70 = .ok (.aload_n 0, 1) := by decide +kernel
theorem own_d15_71 : decode prog_15_method_10_code 71 = .ok (.iload_n 2, 1) := by decide +kernel
theorem own_d15_72 : decode prog_15_method_10_code 72 = .ok (.iload_n 3, 1) := by decide +kernel
theorem own_d15_73 : decode prog_15_method_10_code 73 = .ok (.invokevirtual 89, 3) := by decide +kernel
theorem own_d15_76 : decode prog_15_method_10_code 76 = .ok (.iload_n 3, 1) := by decide +kernel
theorem own_d15_77 : decode prog_15_method_10_code 77 = .ok (.istore_n 2, 1) := by decide +kernel
theorem own_d15_78 : decode prog_15_method_10_code 78 = .ok (.goto (-76), 3) := by decide +kernel
set_option maxRecDepth 65536 in
set_option maxHeartbeats 40000000 in
theorem rm_dn2a (l : Launch) (Z : State) (a0 : Array Value) (hw : ∀ d ∈ tables_1, d.before a0 Z = true) (ws : List Jvm.Cond) (o : Addr) (a1 : Addr) (a2 : Addr) (a3 : Addr) (a4 : Addr) (a5 : Addr) (k1 : ClassId) (k2 : ClassId) (k3 : ClassId) (k4 : ClassId) (k5 : ClassId) (c0 : Int32) (c1 : Int32) (c2 : Int32) (r0 : Int32) (r1 : Int32) (r2 : Int32) (p0 : Int32) (p1 : Int32) (p2 : Int32) (d0 : UInt64) (d1 : UInt64) (d2 : UInt64) (h0 : Heap) (n0 : Nat) (Z0 : n0 ≤ h0.size) (E0 : Exa Z h0 o "com/example/prizepath/prizepath/Insertions") (F1 : Fld Z h0 o "com/example/prizepath/prizepath/Insertions" "customers" "[I" (.ref a1)) (F2 : Fld Z h0 o "com/example/prizepath/prizepath/Insertions" "routes" "[I" (.ref a2)) (F3 : Fld Z h0 o "com/example/prizepath/prizepath/Insertions" "places" "[I" (.ref a3)) (F4 : Fld Z h0 o "com/example/prizepath/prizepath/Insertions" "ranks" "[D" (.ref a4)) (F5 : Fld Z h0 o "com/example/prizepath/prizepath/Insertions" "kept" "[I" (.ref a5)) (A1 : Arv Z h0 a1 k1 .int (256 : Int32) [(.int c0), (.int c1), (.int c2)] (.int (0 : Int32))) (A2 : Arv Z h0 a2 k2 .int (256 : Int32) [(.int r0), (.int r1), (.int r2)] (.int (0 : Int32))) (A3 : Arv Z h0 a3 k3 .int (256 : Int32) [(.int p0), (.int p1), (.int p2)] (.int (0 : Int32))) (A4 : Arv Z h0 a4 k4 .double (256 : Int32) [(.double d0), (.double d1), (.double d2)] (.double (0 : UInt64))) (A5 : Arv Z h0 a5 k5 .int (2 : Int32) [(.int (2 : Int32)), (.int (1 : Int32))] (.int (0 : Int32))) (g5 : n0 ≤ a5) (n01 : a1 ≠ a5) (n02 : a2 ≠ a5) (n03 : a3 ≠ a5) (n04 : a4 ≠ a5) (no5 : o ≠ a5) (nd0 : cmpValue (FP.dcmp d0 d0) .l = 0) (nd1 : cmpValue (FP.dcmp d1 d1) .l = 0) (nd2 : cmpValue (FP.dcmp d2 d2) .l = 0) :
    MetFree l (⟨"com/example/prizepath/prizepath/Insertions", "siftDown", "(I)V"⟩ : MethodName) (head1 (Jvm.Cond.code (⟨"com/example/prizepath/prizepath/Insertions", "siftDown", "(I)V"⟩ : MethodName) prog_15_method_10_code 4 none :: ws) ({ frames := 4, cells := 0, slots := 0, locals := 70 } : Room)) (fun aa U => aa = #[(.ref o), (.int (2 : Int32))] ∧ Z.Warmed39 U.vm ∧ U.heap = h0) (fun _ _ _ _ _ => True) (fun _ U ou U' => ∃ v L, ou = .returned v ∧ Q_rm_dn2a Z o a1 a2 a3 a4 a5 k1 k2 k3 k4 k5 c0 c1 c2 r0 r1 r2 p0 p1 p2 d0 d1 d2 h0 n0 v U'.heap L ∧ FrameEnd U ou U' L ({ frames := 4, cells := 0, slots := 0, locals := 70 } : Room).cells ({ frames := 4, cells := 0, slots := 0, locals := 70 } : Room).slots) := by
  refine MetFree.of_bodySF (plainFor_of_name own_pn2) hisR ?_
  intro p e s m args below meth c s₁ Bd hml0 hP hK
  obtain ⟨rfl, hZ, hh⟩ := hP
  have hx := Bd.exec
  have hby := Bd.bytes
  have hml : c.maxLocals = 4 := hml0
  have hown : s.vm.findClass "com/example/prizepath/prizepath/Insertions" = some m.cls := findClass_of_methodNamed Bd.named
  have hnm := (name_of_methodNamed Bd.named Bd.method).1
  have X0 : Stand p l e ({ frames := 4, cells := 0, slots := 0, locals := 70 } : Room) s m #[(.ref o), (.int (2 : Int32))] below meth c s₁ [] 0 0 := Stand.of_body Bd
  have e0 : s₁.heap = h0 := by rw [← hh, Bd.state]; rfl
  have N0 := Fr.nil n0
  have K0 := Keep.refl h0 [a5]
  show own_Go p e below (fun o u L => FrameEnd s o u L ({ frames := 4, cells := 0, slots := 0, locals := 70 } : Room).cells ({ frames := 4, cells := 0, slots := 0, locals := 70 } : Room).slots) (Q_rm_dn2a Z o a1 a2 a3 a4 a5 k1 k2 k3 k4 k5 c0 c1 c2 r0 r1 r2 p0 p1 p2 d0 d1 d2 h0 n0) (s₁.setTop (entryFrame m #[(.ref o), (.int (2 : Int32))] 4))
  rw [own_ef_rm_dn2a m o]
  show own_Go _ _ _ _ _ (State.setTop _ (mkF _ 0 #[.val (.ref o), .val (.int (2 : Int32)), .unset, .unset] []))
  refine own_iconst X0 hx 1 rfl (hb hby own_d15_0) (0 : Int32) rfl ?_
  refine own_istoreN X0 hx 2 rfl (hb hby own_d15_1) #[.val (.ref o), .val (.int (2 : Int32)), .val (.int (0 : Int32)), .unset] rfl ?_
  refine own_iconst X0 hx 3 rfl (hb hby own_d15_2) (2 : Int32) rfl ?_
  refine own_iloadN X0 hx 4 rfl (hb hby own_d15_3) rfl ?_
  refine own_imul X0 hx 5 rfl (hb hby own_d15_4) (0 : Int32) rfl ?_
  refine own_iconst X0 hx 6 rfl (hb hby own_d15_5) (1 : Int32) rfl ?_
  refine own_iadd X0 hx 7 rfl (hb hby own_d15_6) (1 : Int32) rfl ?_
  refine own_iloadN X0 hx 8 rfl (hb hby own_d15_7) rfl ?_
  refine own_icmpNo X0 hx 11 rfl (hb hby own_d15_8) (by decide) ?_
  refine own_iconst X0 hx 12 rfl (hb hby own_d15_11) (2 : Int32) rfl ?_
  refine own_iloadN X0 hx 13 rfl (hb hby own_d15_12) rfl ?_
  refine own_imul X0 hx 14 rfl (hb hby own_d15_13) (0 : Int32) rfl ?_
  refine own_iconst X0 hx 15 rfl (hb hby own_d15_14) (1 : Int32) rfl ?_
  refine own_iadd X0 hx 16 rfl (hb hby own_d15_15) (1 : Int32) rfl ?_
  refine own_istoreN X0 hx 17 rfl (hb hby own_d15_16) #[.val (.ref o), .val (.int (2 : Int32)), .val (.int (0 : Int32)), .val (.int (1 : Int32))] rfl ?_
  refine own_iloadN X0 hx 18 rfl (hb hby own_d15_17) rfl ?_
  refine own_iconst X0 hx 19 rfl (hb hby own_d15_18) (1 : Int32) rfl ?_
  refine own_iadd X0 hx 20 rfl (hb hby own_d15_19) (2 : Int32) rfl ?_
  refine own_iloadN X0 hx 21 rfl (hb hby own_d15_20) rfl ?_
  refine own_icmpYes X0 hx 48 (hb hby own_d15_21) (by decide) (by decide) rfl ?_
  refine own_aloadN X0 hx 49 rfl (hb hby own_d15_48) rfl rfl ?_
  refine own_aloadN X0 hx 50 rfl (hb hby own_d15_49) rfl rfl ?_
  refine own_getF X0 hx hZ (host := "") hown (Or.inl (own_hw hw 19 rfl)) Via.refl e0 F5 53 rfl (hb hby own_d15_50) fun T289 X289 e289 => ?_
  refine own_iloadN X289 hx 54 rfl (hb hby own_d15_53) rfl ?_
  refine own_ldI X289 hx hZ e289 A5 ⟨by decide, by decide⟩ (2 : Int32) rfl 55 rfl (hb hby own_d15_54) ?_
  refine own_aloadN X289 hx 56 rfl (hb hby own_d15_55) rfl rfl ?_
  refine own_getF X289 hx hZ (host := "") hown (Or.inl (own_hw hw 19 rfl)) Via.refl e289 F5 59 rfl (hb hby own_d15_56) fun T290 X290 e290 => ?_
  refine own_iloadN X290 hx 60 rfl (hb hby own_d15_59) rfl ?_
  refine own_ldI X290 hx hZ e290 A5 ⟨by decide, by decide⟩ (1 : Int32) rfl 61 rfl (hb hby own_d15_60) ?_
  refine own_private X290 hx hZ (y := (⟨"com/example/prizepath/prizepath/Insertions", "ranksBefore", "(II)Z"⟩ : MethodName)) (z := (⟨"com/example/prizepath/prizepath/Insertions", "clear", "()V"⟩ : MethodName)) hown (own_hw hw 75 rfl) (own_hw hw 76 rfl) rfl (own_hw hw 24 rfl) (own_hw hw 77 rfl) (a := o) E0 (by decide) (rm_rb l Z a0 hw [] o (2 : Int32) (1 : Int32) a1 a2 a3 a4 k1 k2 k3 k4 [(.int c0), (.int c1), (.int c2)] [(.int r0), (.int r1), (.int r2)] [(.int p0), (.int p1), (.int p2)] [(.double d0), (.double d1), (.double d2)] d2 d1 c2 c1 r2 r1 p2 p1 h0 n0 Z0 F1 F2 F3 F4 A1 A2 A3 A4 ⟨by decide, by decide⟩ ⟨by decide, by decide⟩ rfl rfl rfl rfl rfl rfl rfl rfl nd2 nd1) (own_hw hw 78 rfl) (own_hw hw 2 rfl) (by decide) e290 (by rw [hml]; rfl) [(.int (2 : Int32)), (.int (1 : Int32))] 0 (by decide) (Nat.le_of_eq rfl) (by decide) (by decide) (lenOf own_pd4 rfl) rfl rfl 64 rfl (hb hby own_d15_61) fun v291 T291 Lc291 X291 hQ291 => ?_
  obtain ⟨z291, rfl, Nq291, e291, hz291⟩ := hQ291
  have N292 := Fr.app N0 Nq291
  rcases hz291 with rfl | rfl
  ·
    show own_Go _ _ _ _ _ (State.setTop _ (mkF _ 64 #[.val (.ref o), .val (.int (2 : Int32)), .val (.int (0 : Int32)), .val (.int (1 : Int32))] [(.int (0 : Int32))]))
    refine own_ifNo X291 hx 67 rfl (hb hby own_d15_64) (by decide) ?_
    refine own_goto X291 hx 81 (hb hby own_d15_67) (by decide) rfl ?_
    refine own_ret X291 none (fun _ => rfl) Bd.notSynchronized (by decide) (by decide) ?_ (fun fs hr => X291.returnOut hx Bd.returns (hb hby own_d15_81) hr)
    show Q_rm_dn2a Z o a1 a2 a3 a4 a5 k1 k2 k3 k4 k5 c0 c1 c2 r0 r1 r2 p0 p1 p2 d0 d1 d2 h0 n0 _ T291.heap _
    rw [e291]
    exact ⟨rfl, N292, K0, Or.inl A5⟩
  ·
    show own_Go _ _ _ _ _ (State.setTop _ (mkF _ 64 #[.val (.ref o), .val (.int (2 : Int32)), .val (.int (0 : Int32)), .val (.int (1 : Int32))] [(.int (1 : Int32))]))
    refine own_ifYes X291 hx 70 (hb hby own_d15_64) (by decide) (by decide) rfl ?_
    refine own_aloadN X291 hx 71 rfl (hb hby own_d15_70) rfl rfl ?_
    refine own_iloadN X291 hx 72 rfl (hb hby own_d15_71) rfl ?_
    refine own_iloadN X291 hx 73 rfl (hb hby own_d15_72) rfl ?_
    refine own_private X291 hx hZ (y := (⟨"com/example/prizepath/prizepath/Insertions", "swapKept", "(II)V"⟩ : MethodName)) (z := (⟨"com/example/prizepath/prizepath/Insertions", "clear", "()V"⟩ : MethodName)) hown (own_hw hw 83 rfl) (own_hw hw 84 rfl) rfl (own_hw hw 24 rfl) (own_hw hw 85 rfl) (a := o) E0 (by decide) (rm_swap12 l Z a0 hw [] o a5 k5 (2 : Int32) (1 : Int32) h0 n0 Z0 F5 A5 g5 no5) (own_hw hw 86 rfl) (own_hw hw 2 rfl) (by decide) e291 (by rw [hml]; rfl) [(.int (0 : Int32)), (.int (1 : Int32))] 0 (by decide) (Nat.le_of_eq rfl) (by decide) (by decide) (lenOf own_pd5 rfl) rfl rfl 76 rfl (hb hby own_d15_73) fun v293 T293 Lc293 X293 hQ293 => ?_
    obtain ⟨rfl, Nq293, Kq293, f294⟩ := hQ293
    have N295 := Fr.app N292 Nq293
    have f296 := E0.keep Kq293
    have f297 := F1.keep Kq293 (ninS no5 nin0)
    have f298 := F2.keep Kq293 (ninS no5 nin0)
    have f299 := F3.keep Kq293 (ninS no5 nin0)
    have f300 := F4.keep Kq293 (ninS no5 nin0)
    have f301 := F5.keep Kq293 (ninS no5 nin0)
    have f302 := A1.keep Kq293 (ninS n01 nin0)
    have f303 := A2.keep Kq293 (ninS n02 nin0)
    have f304 := A3.keep Kq293 (ninS n03 nin0)
    have f305 := A4.keep Kq293 (ninS n04 nin0)
    have z307 := Nat.le_trans Z0 Kq293.1
    have K308 := K0.trans Kq293 (allS (Or.inl (List.mem_of_getElem? (i := 0) rfl)) all0)
    show own_Go _ _ _ _ _ (State.setTop _ (mkF _ 76 _ []))
    refine own_iloadN X293 hx 77 rfl (hb hby own_d15_76) rfl ?_
    refine own_istoreN X293 hx 78 rfl (hb hby own_d15_77) #[.val (.ref o), .val (.int (2 : Int32)), .val (.int (1 : Int32)), .val (.int (1 : Int32))] rfl ?_
    refine own_goto X293 hx 2 (hb hby own_d15_78) (by decide) rfl ?_
    refine own_iconst X293 hx 3 rfl (hb hby own_d15_2) (2 : Int32) rfl ?_
    refine own_iloadN X293 hx 4 rfl (hb hby own_d15_3) rfl ?_
    refine own_imul X293 hx 5 rfl (hb hby own_d15_4) (2 : Int32) rfl ?_
    refine own_iconst X293 hx 6 rfl (hb hby own_d15_5) (1 : Int32) rfl ?_
    refine own_iadd X293 hx 7 rfl (hb hby own_d15_6) (3 : Int32) rfl ?_
    refine own_iloadN X293 hx 8 rfl (hb hby own_d15_7) rfl ?_
    refine own_icmpYes X293 hx 81 (hb hby own_d15_8) (by decide) (by decide) rfl ?_
    refine own_ret X293 none (fun _ => rfl) Bd.notSynchronized (by decide) (by decide) ?_ (fun fs hr => X293.returnOut hx Bd.returns (hb hby own_d15_81) hr)
    show Q_rm_dn2a Z o a1 a2 a3 a4 a5 k1 k2 k3 k4 k5 c0 c1 c2 r0 r1 r2 p0 p1 p2 d0 d1 d2 h0 n0 _ T293.heap _
    exact ⟨rfl, N295, K308, Or.inr f294⟩
theorem own_ef_rm_dn2b (m : MethodId) (o : Addr) : entryFrame m #[(.ref o), (.int (2 : Int32))] 4 = mkF m 0 #[.val (.ref o), .val (.int (2 : Int32)), .unset, .unset] [] := by first | (simp [entryFrame, mkF, argsToLocals, Value.category]; done) | rfl
def Q_rm_dn2b (Z : State) (o : Addr) (a1 : Addr) (a2 : Addr) (a3 : Addr) (a4 : Addr) (a5 : Addr) (k1 : ClassId) (k2 : ClassId) (k3 : ClassId) (k4 : ClassId) (k5 : ClassId) (c0 : Int32) (c1 : Int32) (c2 : Int32) (r0 : Int32) (r1 : Int32) (r2 : Int32) (p0 : Int32) (p1 : Int32) (p2 : Int32) (d0 : UInt64) (d1 : UInt64) (d2 : UInt64) (h0 : Heap) (n0 : Nat) (v : Option Value) (h : Heap) (L : List Loc) : Prop := v = none ∧ Fr n0 L ∧ Keep h0 h [a5] ∧ (Arv Z h a5 k5 .int (2 : Int32) [(.int (2 : Int32)), (.int (0 : Int32))] (.int (0 : Int32)) ∨ Arv Z h a5 k5 .int (2 : Int32) [(.int (0 : Int32)), (.int (2 : Int32))] (.int (0 : Int32)))
set_option maxRecDepth 65536 in
set_option maxHeartbeats 40000000 in
theorem rm_dn2b (l : Launch) (Z : State) (a0 : Array Value) (hw : ∀ d ∈ tables_1, d.before a0 Z = true) (ws : List Jvm.Cond) (o : Addr) (a1 : Addr) (a2 : Addr) (a3 : Addr) (a4 : Addr) (a5 : Addr) (k1 : ClassId) (k2 : ClassId) (k3 : ClassId) (k4 : ClassId) (k5 : ClassId) (c0 : Int32) (c1 : Int32) (c2 : Int32) (r0 : Int32) (r1 : Int32) (r2 : Int32) (p0 : Int32) (p1 : Int32) (p2 : Int32) (d0 : UInt64) (d1 : UInt64) (d2 : UInt64) (h0 : Heap) (n0 : Nat) (Z0 : n0 ≤ h0.size) (E0 : Exa Z h0 o "com/example/prizepath/prizepath/Insertions") (F1 : Fld Z h0 o "com/example/prizepath/prizepath/Insertions" "customers" "[I" (.ref a1)) (F2 : Fld Z h0 o "com/example/prizepath/prizepath/Insertions" "routes" "[I" (.ref a2)) (F3 : Fld Z h0 o "com/example/prizepath/prizepath/Insertions" "places" "[I" (.ref a3)) (F4 : Fld Z h0 o "com/example/prizepath/prizepath/Insertions" "ranks" "[D" (.ref a4)) (F5 : Fld Z h0 o "com/example/prizepath/prizepath/Insertions" "kept" "[I" (.ref a5)) (A1 : Arv Z h0 a1 k1 .int (256 : Int32) [(.int c0), (.int c1), (.int c2)] (.int (0 : Int32))) (A2 : Arv Z h0 a2 k2 .int (256 : Int32) [(.int r0), (.int r1), (.int r2)] (.int (0 : Int32))) (A3 : Arv Z h0 a3 k3 .int (256 : Int32) [(.int p0), (.int p1), (.int p2)] (.int (0 : Int32))) (A4 : Arv Z h0 a4 k4 .double (256 : Int32) [(.double d0), (.double d1), (.double d2)] (.double (0 : UInt64))) (A5 : Arv Z h0 a5 k5 .int (2 : Int32) [(.int (2 : Int32)), (.int (0 : Int32))] (.int (0 : Int32))) (g5 : n0 ≤ a5) (n01 : a1 ≠ a5) (n02 : a2 ≠ a5) (n03 : a3 ≠ a5) (n04 : a4 ≠ a5) (no5 : o ≠ a5) (nd0 : cmpValue (FP.dcmp d0 d0) .l = 0) (nd1 : cmpValue (FP.dcmp d1 d1) .l = 0) (nd2 : cmpValue (FP.dcmp d2 d2) .l = 0) :
    MetFree l (⟨"com/example/prizepath/prizepath/Insertions", "siftDown", "(I)V"⟩ : MethodName) (head1 (Jvm.Cond.code (⟨"com/example/prizepath/prizepath/Insertions", "siftDown", "(I)V"⟩ : MethodName) prog_15_method_10_code 4 none :: ws) ({ frames := 4, cells := 0, slots := 0, locals := 70 } : Room)) (fun aa U => aa = #[(.ref o), (.int (2 : Int32))] ∧ Z.Warmed39 U.vm ∧ U.heap = h0) (fun _ _ _ _ _ => True) (fun _ U ou U' => ∃ v L, ou = .returned v ∧ Q_rm_dn2b Z o a1 a2 a3 a4 a5 k1 k2 k3 k4 k5 c0 c1 c2 r0 r1 r2 p0 p1 p2 d0 d1 d2 h0 n0 v U'.heap L ∧ FrameEnd U ou U' L ({ frames := 4, cells := 0, slots := 0, locals := 70 } : Room).cells ({ frames := 4, cells := 0, slots := 0, locals := 70 } : Room).slots) := by
  refine MetFree.of_bodySF (plainFor_of_name own_pn2) hisR ?_
  intro p e s m args below meth c s₁ Bd hml0 hP hK
  obtain ⟨rfl, hZ, hh⟩ := hP
  have hx := Bd.exec
  have hby := Bd.bytes
  have hml : c.maxLocals = 4 := hml0
  have hown : s.vm.findClass "com/example/prizepath/prizepath/Insertions" = some m.cls := findClass_of_methodNamed Bd.named
  have hnm := (name_of_methodNamed Bd.named Bd.method).1
  have X0 : Stand p l e ({ frames := 4, cells := 0, slots := 0, locals := 70 } : Room) s m #[(.ref o), (.int (2 : Int32))] below meth c s₁ [] 0 0 := Stand.of_body Bd
  have e0 : s₁.heap = h0 := by rw [← hh, Bd.state]; rfl
  have N0 := Fr.nil n0
  have K0 := Keep.refl h0 [a5]
  show own_Go p e below (fun o u L => FrameEnd s o u L ({ frames := 4, cells := 0, slots := 0, locals := 70 } : Room).cells ({ frames := 4, cells := 0, slots := 0, locals := 70 } : Room).slots) (Q_rm_dn2b Z o a1 a2 a3 a4 a5 k1 k2 k3 k4 k5 c0 c1 c2 r0 r1 r2 p0 p1 p2 d0 d1 d2 h0 n0) (s₁.setTop (entryFrame m #[(.ref o), (.int (2 : Int32))] 4))
  rw [own_ef_rm_dn2b m o]
  show own_Go _ _ _ _ _ (State.setTop _ (mkF _ 0 #[.val (.ref o), .val (.int (2 : Int32)), .unset, .unset] []))
  refine own_iconst X0 hx 1 rfl (hb hby own_d15_0) (0 : Int32) rfl ?_
  refine own_istoreN X0 hx 2 rfl (hb hby own_d15_1) #[.val (.ref o), .val (.int (2 : Int32)), .val (.int (0 : Int32)), .unset] rfl ?_
  refine own_iconst X0 hx 3 rfl (hb hby own_d15_2) (2 : Int32) rfl ?_
  refine own_iloadN X0 hx 4 rfl (hb hby own_d15_3) rfl ?_
  refine own_imul X0 hx 5 rfl (hb hby own_d15_4) (0 : Int32) rfl ?_
  refine own_iconst X0 hx 6 rfl (hb hby own_d15_5) (1 : Int32) rfl ?_
  refine own_iadd X0 hx 7 rfl (hb hby own_d15_6) (1 : Int32) rfl ?_
  refine own_iloadN X0 hx 8 rfl (hb hby own_d15_7) rfl ?_
  refine own_icmpNo X0 hx 11 rfl (hb hby own_d15_8) (by decide) ?_
  refine own_iconst X0 hx 12 rfl (hb hby own_d15_11) (2 : Int32) rfl ?_
  refine own_iloadN X0 hx 13 rfl (hb hby own_d15_12) rfl ?_
  refine own_imul X0 hx 14 rfl (hb hby own_d15_13) (0 : Int32) rfl ?_
  refine own_iconst X0 hx 15 rfl (hb hby own_d15_14) (1 : Int32) rfl ?_
  refine own_iadd X0 hx 16 rfl (hb hby own_d15_15) (1 : Int32) rfl ?_
  refine own_istoreN X0 hx 17 rfl (hb hby own_d15_16) #[.val (.ref o), .val (.int (2 : Int32)), .val (.int (0 : Int32)), .val (.int (1 : Int32))] rfl ?_
  refine own_iloadN X0 hx 18 rfl (hb hby own_d15_17) rfl ?_
  refine own_iconst X0 hx 19 rfl (hb hby own_d15_18) (1 : Int32) rfl ?_
  refine own_iadd X0 hx 20 rfl (hb hby own_d15_19) (2 : Int32) rfl ?_
  refine own_iloadN X0 hx 21 rfl (hb hby own_d15_20) rfl ?_
  refine own_icmpYes X0 hx 48 (hb hby own_d15_21) (by decide) (by decide) rfl ?_
  refine own_aloadN X0 hx 49 rfl (hb hby own_d15_48) rfl rfl ?_
  refine own_aloadN X0 hx 50 rfl (hb hby own_d15_49) rfl rfl ?_
  refine own_getF X0 hx hZ (host := "") hown (Or.inl (own_hw hw 19 rfl)) Via.refl e0 F5 53 rfl (hb hby own_d15_50) fun T309 X309 e309 => ?_
  refine own_iloadN X309 hx 54 rfl (hb hby own_d15_53) rfl ?_
  refine own_ldI X309 hx hZ e309 A5 ⟨by decide, by decide⟩ (2 : Int32) rfl 55 rfl (hb hby own_d15_54) ?_
  refine own_aloadN X309 hx 56 rfl (hb hby own_d15_55) rfl rfl ?_
  refine own_getF X309 hx hZ (host := "") hown (Or.inl (own_hw hw 19 rfl)) Via.refl e309 F5 59 rfl (hb hby own_d15_56) fun T310 X310 e310 => ?_
  refine own_iloadN X310 hx 60 rfl (hb hby own_d15_59) rfl ?_
  refine own_ldI X310 hx hZ e310 A5 ⟨by decide, by decide⟩ (0 : Int32) rfl 61 rfl (hb hby own_d15_60) ?_
  refine own_private X310 hx hZ (y := (⟨"com/example/prizepath/prizepath/Insertions", "ranksBefore", "(II)Z"⟩ : MethodName)) (z := (⟨"com/example/prizepath/prizepath/Insertions", "clear", "()V"⟩ : MethodName)) hown (own_hw hw 75 rfl) (own_hw hw 76 rfl) rfl (own_hw hw 24 rfl) (own_hw hw 77 rfl) (a := o) E0 (by decide) (rm_rb l Z a0 hw [] o (2 : Int32) (0 : Int32) a1 a2 a3 a4 k1 k2 k3 k4 [(.int c0), (.int c1), (.int c2)] [(.int r0), (.int r1), (.int r2)] [(.int p0), (.int p1), (.int p2)] [(.double d0), (.double d1), (.double d2)] d2 d0 c2 c0 r2 r0 p2 p0 h0 n0 Z0 F1 F2 F3 F4 A1 A2 A3 A4 ⟨by decide, by decide⟩ ⟨by decide, by decide⟩ rfl rfl rfl rfl rfl rfl rfl rfl nd2 nd0) (own_hw hw 78 rfl) (own_hw hw 2 rfl) (by decide) e310 (by rw [hml]; rfl) [(.int (2 : Int32)), (.int (0 : Int32))] 0 (by decide) (Nat.le_of_eq rfl) (by decide) (by decide) (lenOf own_pd4 rfl) rfl rfl 64 rfl (hb hby own_d15_61) fun v311 T311 Lc311 X311 hQ311 => ?_
  obtain ⟨z311, rfl, Nq311, e311, hz311⟩ := hQ311
  have N312 := Fr.app N0 Nq311
  rcases hz311 with rfl | rfl
  ·
    show own_Go _ _ _ _ _ (State.setTop _ (mkF _ 64 #[.val (.ref o), .val (.int (2 : Int32)), .val (.int (0 : Int32)), .val (.int (1 : Int32))] [(.int (0 : Int32))]))
    refine own_ifNo X311 hx 67 rfl (hb hby own_d15_64) (by decide) ?_
    refine own_goto X311 hx 81 (hb hby own_d15_67) (by decide) rfl ?_
    refine own_ret X311 none (fun _ => rfl) Bd.notSynchronized (by decide) (by decide) ?_ (fun fs hr => X311.returnOut hx Bd.returns (hb hby own_d15_81) hr)
    show Q_rm_dn2b Z o a1 a2 a3 a4 a5 k1 k2 k3 k4 k5 c0 c1 c2 r0 r1 r2 p0 p1 p2 d0 d1 d2 h0 n0 _ T311.heap _
    rw [e311]
    exact ⟨rfl, N312, K0, Or.inl A5⟩
  ·
    show own_Go _ _ _ _ _ (State.setTop _ (mkF _ 64 #[.val (.ref o), .val (.int (2 : Int32)), .val (.int (0 : Int32)), .val (.int (1 : Int32))] [(.int (1 : Int32))]))
    refine own_ifYes X311 hx 70 (hb hby own_d15_64) (by decide) (by decide) rfl ?_
    refine own_aloadN X311 hx 71 rfl (hb hby own_d15_70) rfl rfl ?_
    refine own_iloadN X311 hx 72 rfl (hb hby own_d15_71) rfl ?_
    refine own_iloadN X311 hx 73 rfl (hb hby own_d15_72) rfl ?_
    refine own_private X311 hx hZ (y := (⟨"com/example/prizepath/prizepath/Insertions", "swapKept", "(II)V"⟩ : MethodName)) (z := (⟨"com/example/prizepath/prizepath/Insertions", "clear", "()V"⟩ : MethodName)) hown (own_hw hw 83 rfl) (own_hw hw 84 rfl) rfl (own_hw hw 24 rfl) (own_hw hw 85 rfl) (a := o) E0 (by decide) (rm_swap12 l Z a0 hw [] o a5 k5 (2 : Int32) (0 : Int32) h0 n0 Z0 F5 A5 g5 no5) (own_hw hw 86 rfl) (own_hw hw 2 rfl) (by decide) e311 (by rw [hml]; rfl) [(.int (0 : Int32)), (.int (1 : Int32))] 0 (by decide) (Nat.le_of_eq rfl) (by decide) (by decide) (lenOf own_pd5 rfl) rfl rfl 76 rfl (hb hby own_d15_73) fun v313 T313 Lc313 X313 hQ313 => ?_
    obtain ⟨rfl, Nq313, Kq313, f314⟩ := hQ313
    have N315 := Fr.app N312 Nq313
    have f316 := E0.keep Kq313
    have f317 := F1.keep Kq313 (ninS no5 nin0)
    have f318 := F2.keep Kq313 (ninS no5 nin0)
    have f319 := F3.keep Kq313 (ninS no5 nin0)
    have f320 := F4.keep Kq313 (ninS no5 nin0)
    have f321 := F5.keep Kq313 (ninS no5 nin0)
    have f322 := A1.keep Kq313 (ninS n01 nin0)
    have f323 := A2.keep Kq313 (ninS n02 nin0)
    have f324 := A3.keep Kq313 (ninS n03 nin0)
    have f325 := A4.keep Kq313 (ninS n04 nin0)
    have z327 := Nat.le_trans Z0 Kq313.1
    have K328 := K0.trans Kq313 (allS (Or.inl (List.mem_of_getElem? (i := 0) rfl)) all0)
    show own_Go _ _ _ _ _ (State.setTop _ (mkF _ 76 _ []))
    refine own_iloadN X313 hx 77 rfl (hb hby own_d15_76) rfl ?_
    refine own_istoreN X313 hx 78 rfl (hb hby own_d15_77) #[.val (.ref o), .val (.int (2 : Int32)), .val (.int (1 : Int32)), .val (.int (1 : Int32))] rfl ?_
    refine own_goto X313 hx 2 (hb hby own_d15_78) (by decide) rfl ?_
    refine own_iconst X313 hx 3 rfl (hb hby own_d15_2) (2 : Int32) rfl ?_
    refine own_iloadN X313 hx 4 rfl (hb hby own_d15_3) rfl ?_
    refine own_imul X313 hx 5 rfl (hb hby own_d15_4) (2 : Int32) rfl ?_
    refine own_iconst X313 hx 6 rfl (hb hby own_d15_5) (1 : Int32) rfl ?_
    refine own_iadd X313 hx 7 rfl (hb hby own_d15_6) (3 : Int32) rfl ?_
    refine own_iloadN X313 hx 8 rfl (hb hby own_d15_7) rfl ?_
    refine own_icmpYes X313 hx 81 (hb hby own_d15_8) (by decide) (by decide) rfl ?_
    refine own_ret X313 none (fun _ => rfl) Bd.notSynchronized (by decide) (by decide) ?_ (fun fs hr => X313.returnOut hx Bd.returns (hb hby own_d15_81) hr)
    show Q_rm_dn2b Z o a1 a2 a3 a4 a5 k1 k2 k3 k4 k5 c0 c1 c2 r0 r1 r2 p0 p1 p2 d0 d1 d2 h0 n0 _ T313.heap _
    exact ⟨rfl, N315, K328, Or.inr f314⟩
theorem own_ef_rm_mv10 (m : MethodId) (o : Addr) : entryFrame m #[(.ref o), (.int (0 : Int32))] 2 = mkF m 0 #[.val (.ref o), .val (.int (0 : Int32))] [] := by first | (simp [entryFrame, mkF, argsToLocals, Value.category]; done) | rfl
def Q_rm_mv10 (Z : State) (o : Addr) (a1 : Addr) (a2 : Addr) (a3 : Addr) (a4 : Addr) (k1 : ClassId) (k2 : ClassId) (k3 : ClassId) (k4 : ClassId) (c0 : Int32) (c1 : Int32) (c2 : Int32) (r0 : Int32) (r1 : Int32) (r2 : Int32) (p0 : Int32) (p1 : Int32) (p2 : Int32) (d0 : UInt64) (d1 : UInt64) (d2 : UInt64) (h0 : Heap) (n0 : Nat) (v : Option Value) (h : Heap) (L : List Loc) : Prop := v = none ∧ Fr n0 L ∧ Keep h0 h [o, a1, a2, a3, a4] ∧ Fld Z h o "com/example/prizepath/prizepath/Insertions" "size" "I" (.int (0 : Int32))
theorem own_d11_0 : decode prog_15_method_12_code 0 = .ok (.aload_n 0, 1) := by decide +kernel
theorem own_d11_1 : decode prog_15_method_12_code 1 = .ok (.dup, 1) := by decide +kernel
theorem own_d11_2 : decode prog_15_method_12_code 2 = .ok (.getfield 28, 3) := by decide +kernel
theorem own_d11_5 : decode prog_15_method_12_code 5 = .ok (.iconst 1, 1) := by decide +kernel
theorem own_d11_6 : decode prog_15_method_12_code 6 = .ok (.isub, 1) := by decide +kernel
theorem own_d11_7 : decode prog_15_method_12_code 7 = .ok (.putfield 28, 3) := by decide +kernel
theorem own_d11_10 : decode prog_15_method_12_code 10 = .ok (.aload_n 0, 1) := by decide +kernel
theorem own_d11_11 : decode prog_15_method_12_code 11 = .ok (.getfield 11, 3) := by decide +kernel
theorem own_d11_14 : decode prog_15_method_12_code 14 = .ok (.iload_n 1, 1) := by decide +kernel
theorem own_d11_15 : decode prog_15_method_12_code 15 = .ok (.aload_n 0, 1) := by decide +kernel
theorem own_d11_16 : decode prog_15_method_12_code 16 = .ok (.getfield 11, 3) := by decide +kernel
theorem own_d11_19 : decode prog_15_method_12_code 19 = .ok (.aload_n 0, 1) := by decide +kernel
theorem own_d11_20 : decode prog_15_method_12_code 20 = .ok (.getfield 28, 3) := by decide +kernel
theorem own_d11_23 : decode prog_15_method_12_code 23 = .ok (.iaload, 1) := by decide +kernel
theorem own_d11_24 : decode prog_15_method_12_code 24 = .ok (.iastore, 1) := by decide +kernel
theorem own_d11_25 : decode prog_15_method_12_code 25 = .ok (.aload_n 0, 1) := by decide +kernel
theorem own_d11_26 : decode prog_15_method_12_code 26 = .ok (.getfield 15, 3) := by decide +kernel
theorem own_d11_29 : decode prog_15_method_12_code 29 = .ok (.iload_n 1, 1) := by decide +kernel
theorem own_d11_30 : decode prog_15_method_12_code 30 = .ok (.aload_n 0, 1) := by decide +kernel
theorem own_d11_31 : decode prog_15_method_12_code 31 = .ok (.getfield 15, 3) := by decide +kernel
theorem own_d11_34 : decode prog_15_method_12_code 34 = .ok (.aload_n 0, 1) := by decide +kernel
theorem own_d11_35 : decode prog_15_method_12_code 35 = .ok (.getfield 28, 3) := by decide +kernel
theorem own_d11_38 : decode prog_15_method_12_code 38 = .ok (.iaload, 1) := by decide +kernel
theorem own_d11_39 : decode prog_15_method_12_code 39 = .ok (.iastore, 1) := by decide +kernel
theorem own_d11_40 : decode prog_15_method_12_code 40 = .ok (.aload_n 0, 1) := by decide +kernel
theorem own_d11_41 : decode prog_15_method_12_code 41 = .ok (.getfield 18, 3) := by decide +kernel
theorem own_d11_44 : decode prog_15_method_12_code 44 = .ok (.iload_n 1, 1) := by decide +kernel
theorem own_d11_45 : decode prog_15_method_12_code 45 = .ok (.aload_n 0, 1) := by decide +kernel
theorem own_d11_46 : decode prog_15_method_12_code 46 = .ok (.getfield 18, 3) := by decide +kernel
theorem own_d11_49 : decode prog_15_method_12_code 49 = .ok (.aload_n 0, 1) := by decide +kernel
theorem own_d11_50 : decode prog_15_method_12_code 50 = .ok (.getfield 28, 3) := by decide +kernel
theorem own_d11_53 : decode prog_15_method_12_code 53 = .ok (.iaload, 1) := by decide +kernel
theorem own_d11_54 : decode prog_15_method_12_code 54 = .ok (.iastore, 1) := by decide +kernel
theorem own_d11_55 : decode prog_15_method_12_code 55 = .ok (.aload_n 0, 1) := by decide +kernel
theorem own_d11_56 : decode prog_15_method_12_code 56 = .ok (.getfield 21, 3) := by decide +kernel
theorem own_d11_59 : decode prog_15_method_12_code 59 = .ok (.iload_n 1, 1) := by decide +kernel
theorem own_d11_60 : decode prog_15_method_12_code 60 = .ok (.aload_n 0, 1) := by decide +kernel
theorem own_d11_61 : decode prog_15_method_12_code 61 = .ok (.getfield 21, 3) := by decide +kernel
theorem own_d11_64 : decode prog_15_method_12_code 64 = .ok (.aload_n 0, 1) := by decide +kernel
theorem own_d11_65 : decode prog_15_method_12_code 65 = .ok (.getfield 28, 3) := by decide +kernel
theorem own_d11_68 : decode prog_15_method_12_code 68 = .ok (.daload, 1) := by decide +kernel
theorem own_d11_69 : decode prog_15_method_12_code 69 = .ok (.dastore, 1) := by decide +kernel
theorem own_d11_70 : decode prog_15_method_12_code 70 = .ok (.return_, 1) := by decide +kernel
set_option maxRecDepth 65536 in
set_option maxHeartbeats 40000000 in
theorem rm_mv10 (l : Launch) (Z : State) (a0 : Array Value) (hw : ∀ d ∈ tables_1, d.before a0 Z = true) (ws : List Jvm.Cond) (o : Addr) (a1 : Addr) (a2 : Addr) (a3 : Addr) (a4 : Addr) (k1 : ClassId) (k2 : ClassId) (k3 : ClassId) (k4 : ClassId) (c0 : Int32) (c1 : Int32) (c2 : Int32) (r0 : Int32) (r1 : Int32) (r2 : Int32) (p0 : Int32) (p1 : Int32) (p2 : Int32) (d0 : UInt64) (d1 : UInt64) (d2 : UInt64) (h0 : Heap) (n0 : Nat) (Z0 : n0 ≤ h0.size) (E0 : Exa Z h0 o "com/example/prizepath/prizepath/Insertions") (F1 : Fld Z h0 o "com/example/prizepath/prizepath/Insertions" "customers" "[I" (.ref a1)) (F2 : Fld Z h0 o "com/example/prizepath/prizepath/Insertions" "routes" "[I" (.ref a2)) (F3 : Fld Z h0 o "com/example/prizepath/prizepath/Insertions" "places" "[I" (.ref a3)) (F4 : Fld Z h0 o "com/example/prizepath/prizepath/Insertions" "ranks" "[D" (.ref a4)) (A1 : Arv Z h0 a1 k1 .int (256 : Int32) [(.int c0), (.int c1), (.int c2)] (.int (0 : Int32))) (A2 : Arv Z h0 a2 k2 .int (256 : Int32) [(.int r0), (.int r1), (.int r2)] (.int (0 : Int32))) (A3 : Arv Z h0 a3 k3 .int (256 : Int32) [(.int p0), (.int p1), (.int p2)] (.int (0 : Int32))) (A4 : Arv Z h0 a4 k4 .double (256 : Int32) [(.double d0), (.double d1), (.double d2)] (.double (0 : UInt64))) (FZ : Fld Z h0 o "com/example/prizepath/prizepath/Insertions" "size" "I" (.int (1 : Int32))) (g_o : n0 ≤ o) (g_a1 : n0 ≤ a1) (g_a2 : n0 ≤ a2) (g_a3 : n0 ≤ a3) (g_a4 : n0 ≤ a4) (n_oa1 : o ≠ a1) (n_oa2 : o ≠ a2) (n_oa3 : o ≠ a3) (n_oa4 : o ≠ a4) (n_a1a2 : a1 ≠ a2) (n_a1a3 : a1 ≠ a3) (n_a1a4 : a1 ≠ a4) (n_a2a3 : a2 ≠ a3) (n_a2a4 : a2 ≠ a4) (n_a3a4 : a3 ≠ a4) :
    MetFree l (⟨"com/example/prizepath/prizepath/Insertions", "moveLastTo", "(I)V"⟩ : MethodName) (head1 (Jvm.Cond.code (⟨"com/example/prizepath/prizepath/Insertions", "moveLastTo", "(I)V"⟩ : MethodName) prog_15_method_12_code 2 none :: ws) ({ frames := 0, cells := 0, slots := 0, locals := 0 } : Room)) (fun aa U => aa = #[(.ref o), (.int (0 : Int32))] ∧ Z.Warmed39 U.vm ∧ U.heap = h0) (fun _ _ _ _ _ => True) (fun _ U ou U' => ∃ v L, ou = .returned v ∧ Q_rm_mv10 Z o a1 a2 a3 a4 k1 k2 k3 k4 c0 c1 c2 r0 r1 r2 p0 p1 p2 d0 d1 d2 h0 n0 v U'.heap L ∧ FrameEnd U ou U' L ({ frames := 0, cells := 0, slots := 0, locals := 0 } : Room).cells ({ frames := 0, cells := 0, slots := 0, locals := 0 } : Room).slots) := by
  refine MetFree.of_bodySF (plainFor_of_name own_pn2) hisR ?_
  intro p e s m args below meth c s₁ Bd hml0 hP hK
  obtain ⟨rfl, hZ, hh⟩ := hP
  have hx := Bd.exec
  have hby := Bd.bytes
  have hml : c.maxLocals = 2 := hml0
  have hown : s.vm.findClass "com/example/prizepath/prizepath/Insertions" = some m.cls := findClass_of_methodNamed Bd.named
  have hnm := (name_of_methodNamed Bd.named Bd.method).1
  have X0 : Stand p l e ({ frames := 0, cells := 0, slots := 0, locals := 0 } : Room) s m #[(.ref o), (.int (0 : Int32))] below meth c s₁ [] 0 0 := Stand.of_body Bd
  have e0 : s₁.heap = h0 := by rw [← hh, Bd.state]; rfl
  have N0 := Fr.nil n0
  have K0 := Keep.refl h0 [o, a1, a2, a3, a4]
  show own_Go p e below (fun o u L => FrameEnd s o u L ({ frames := 0, cells := 0, slots := 0, locals := 0 } : Room).cells ({ frames := 0, cells := 0, slots := 0, locals := 0 } : Room).slots) (Q_rm_mv10 Z o a1 a2 a3 a4 k1 k2 k3 k4 c0 c1 c2 r0 r1 r2 p0 p1 p2 d0 d1 d2 h0 n0) (s₁.setTop (entryFrame m #[(.ref o), (.int (0 : Int32))] 2))
  rw [own_ef_rm_mv10 m o]
  show own_Go _ _ _ _ _ (State.setTop _ (mkF _ 0 #[.val (.ref o), .val (.int (0 : Int32))] []))
  refine own_aloadN X0 hx 1 rfl (hb hby own_d11_0) rfl rfl ?_
  refine own_dup X0 hx 2 rfl (hb hby own_d11_1) rfl ?_
  refine own_getF X0 hx hZ (host := "") hown (Or.inl (own_hw hw 26 rfl)) Via.refl e0 FZ 5 rfl (hb hby own_d11_2) fun T329 X329 e329 => ?_
  refine own_iconst X329 hx 6 rfl (hb hby own_d11_5) (1 : Int32) rfl ?_
  refine own_isub X329 hx 7 rfl (hb hby own_d11_6) (0 : Int32) rfl ?_
  refine own_putF X329 hx hZ (host := "") hown (Or.inl (own_hw hw 26 rfl)) Via.refl e329 FZ E0 (Or.inl (own_hw hw 27 rfl)) (own_hw hw 1 rfl) (ty := .int) (by decide) rfl rfl 10 rfl (hb hby own_d11_7) fun T330 h330 X330 e330 W330 => ?_
  have f331 := E0.wr W330
  have f332 := F1.other W330 (Or.inr (slot_ne (Or.inl (own_hw hw 11 rfl)) (Or.inl (own_hw hw 27 rfl)) (by decide) (t := (.array .int)) (t' := .int) (by decide) (by decide)))
  have f333 := F2.other W330 (Or.inr (slot_ne (Or.inl (own_hw hw 13 rfl)) (Or.inl (own_hw hw 27 rfl)) (by decide) (t := (.array .int)) (t' := .int) (by decide) (by decide)))
  have f334 := F3.other W330 (Or.inr (slot_ne (Or.inl (own_hw hw 15 rfl)) (Or.inl (own_hw hw 27 rfl)) (by decide) (t := (.array .int)) (t' := .int) (by decide) (by decide)))
  have f335 := F4.other W330 (Or.inr (slot_ne (Or.inl (own_hw hw 18 rfl)) (Or.inl (own_hw hw 27 rfl)) (by decide) (t := (.array .double)) (t' := .int) (by decide) (by decide)))
  have f336 := A1.other W330 (Ne.symm n_oa1)
  have f337 := A2.other W330 (Ne.symm n_oa2)
  have f338 := A3.other W330 (Ne.symm n_oa3)
  have f339 := A4.other W330 (Ne.symm n_oa4)
  have z340 := Nat.le_trans Z0 (Keep.of_wr W330).1
  have K341 := K0.wr W330 (Or.inl (List.mem_of_getElem? (i := 0) rfl))
  have f342 := FZ.same W330
  have N343 := Fr.snoc X330 N0 g_o
  refine own_aloadN X330 hx 11 rfl (hb hby own_d11_10) rfl rfl ?_
  refine own_getF X330 hx hZ (host := "") hown (Or.inl (own_hw hw 10 rfl)) Via.refl e330 f332 14 rfl (hb hby own_d11_11) fun T344 X344 e344 => ?_
  refine own_iloadN X344 hx 15 rfl (hb hby own_d11_14) rfl ?_
  refine own_aloadN X344 hx 16 rfl (hb hby own_d11_15) rfl rfl ?_
  refine own_getF X344 hx hZ (host := "") hown (Or.inl (own_hw hw 10 rfl)) Via.refl e344 f332 19 rfl (hb hby own_d11_16) fun T345 X345 e345 => ?_
  refine own_aloadN X345 hx 20 rfl (hb hby own_d11_19) rfl rfl ?_
  refine own_getF X345 hx hZ (host := "") hown (Or.inl (own_hw hw 26 rfl)) Via.refl e345 f342 23 rfl (hb hby own_d11_20) fun T346 X346 e346 => ?_
  refine own_ldI X346 hx hZ e346 f336 ⟨by decide, by decide⟩ c0 rfl 24 rfl (hb hby own_d11_23) ?_
  refine own_stI X346 hx hZ e346 f336 ⟨by decide, by decide⟩ 0 rfl (Nat.le_of_ble_eq_true rfl) [(.int c0), (.int c1), (.int c2)] rfl 25 rfl (hb hby own_d11_24) fun T347 h347 X347 e347 W347 f348 => ?_
  have f349 := f331.wr W347
  have f350 := f332.other W347 (Or.inl n_oa1)
  have f351 := f333.other W347 (Or.inl n_oa1)
  have f352 := f334.other W347 (Or.inl n_oa1)
  have f353 := f335.other W347 (Or.inl n_oa1)
  have f354 := f337.other W347 (Ne.symm n_a1a2)
  have f355 := f338.other W347 (Ne.symm n_a1a3)
  have f356 := f339.other W347 (Ne.symm n_a1a4)
  have f357 := f342.other W347 (Or.inl n_oa1)
  have z358 := Nat.le_trans z340 (Keep.of_wr W347).1
  have K359 := K341.wr W347 (Or.inl (List.mem_of_getElem? (i := 1) rfl))
  have N360 := Fr.snoc X347 N343 g_a1
  refine own_aloadN X347 hx 26 rfl (hb hby own_d11_25) rfl rfl ?_
  refine own_getF X347 hx hZ (host := "") hown (Or.inl (own_hw hw 12 rfl)) Via.refl e347 f351 29 rfl (hb hby own_d11_26) fun T361 X361 e361 => ?_
  refine own_iloadN X361 hx 30 rfl (hb hby own_d11_29) rfl ?_
  refine own_aloadN X361 hx 31 rfl (hb hby own_d11_30) rfl rfl ?_
  refine own_getF X361 hx hZ (host := "") hown (Or.inl (own_hw hw 12 rfl)) Via.refl e361 f351 34 rfl (hb hby own_d11_31) fun T362 X362 e362 => ?_
  refine own_aloadN X362 hx 35 rfl (hb hby own_d11_34) rfl rfl ?_
  refine own_getF X362 hx hZ (host := "") hown (Or.inl (own_hw hw 26 rfl)) Via.refl e362 f357 38 rfl (hb hby own_d11_35) fun T363 X363 e363 => ?_
  refine own_ldI X363 hx hZ e363 f354 ⟨by decide, by decide⟩ r0 rfl 39 rfl (hb hby own_d11_38) ?_
  refine own_stI X363 hx hZ e363 f354 ⟨by decide, by decide⟩ 0 rfl (Nat.le_of_ble_eq_true rfl) [(.int r0), (.int r1), (.int r2)] rfl 40 rfl (hb hby own_d11_39) fun T364 h364 X364 e364 W364 f365 => ?_
  have f366 := f349.wr W364
  have f367 := f350.other W364 (Or.inl n_oa2)
  have f368 := f351.other W364 (Or.inl n_oa2)
  have f369 := f352.other W364 (Or.inl n_oa2)
  have f370 := f353.other W364 (Or.inl n_oa2)
  have f371 := f355.other W364 (Ne.symm n_a2a3)
  have f372 := f356.other W364 (Ne.symm n_a2a4)
  have f373 := f357.other W364 (Or.inl n_oa2)
  have f374 := f348.other W364 n_a1a2
  have z375 := Nat.le_trans z358 (Keep.of_wr W364).1
  have K376 := K359.wr W364 (Or.inl (List.mem_of_getElem? (i := 2) rfl))
  have N377 := Fr.snoc X364 N360 g_a2
  refine own_aloadN X364 hx 41 rfl (hb hby own_d11_40) rfl rfl ?_
  refine own_getF X364 hx hZ (host := "") hown (Or.inl (own_hw hw 14 rfl)) Via.refl e364 f369 44 rfl (hb hby own_d11_41) fun T378 X378 e378 => ?_
  refine own_iloadN X378 hx 45 rfl (hb hby own_d11_44) rfl ?_
  refine own_aloadN X378 hx 46 rfl (hb hby own_d11_45) rfl rfl ?_
  refine own_getF X378 hx hZ (host := "") hown (Or.inl (own_hw hw 14 rfl)) Via.refl e378 f369 49 rfl (hb hby own_d11_46) fun T379 X379 e379 => ?_
  refine own_aloadN X379 hx 50 rfl (hb hby own_d11_49) rfl rfl ?_
  refine own_getF X379 hx hZ (host := "") hown (Or.inl (own_hw hw 26 rfl)) Via.refl e379 f373 53 rfl (hb hby own_d11_50) fun T380 X380 e380 => ?_
  refine own_ldI X380 hx hZ e380 f371 ⟨by decide, by decide⟩ p0 rfl 54 rfl (hb hby own_d11_53) ?_
  refine own_stI X380 hx hZ e380 f371 ⟨by decide, by decide⟩ 0 rfl (Nat.le_of_ble_eq_true rfl) [(.int p0), (.int p1), (.int p2)] rfl 55 rfl (hb hby own_d11_54) fun T381 h381 X381 e381 W381 f382 => ?_
  have f383 := f366.wr W381
  have f384 := f367.other W381 (Or.inl n_oa3)
  have f385 := f368.other W381 (Or.inl n_oa3)
  have f386 := f369.other W381 (Or.inl n_oa3)
  have f387 := f370.other W381 (Or.inl n_oa3)
  have f388 := f372.other W381 (Ne.symm n_a3a4)
  have f389 := f373.other W381 (Or.inl n_oa3)
  have f390 := f374.other W381 n_a1a3
  have f391 := f365.other W381 n_a2a3
  have z392 := Nat.le_trans z375 (Keep.of_wr W381).1
  have K393 := K376.wr W381 (Or.inl (List.mem_of_getElem? (i := 3) rfl))
  have N394 := Fr.snoc X381 N377 g_a3
  refine own_aloadN X381 hx 56 rfl (hb hby own_d11_55) rfl rfl ?_
  refine own_getF X381 hx hZ (host := "") hown (Or.inl (own_hw hw 17 rfl)) Via.refl e381 f387 59 rfl (hb hby own_d11_56) fun T395 X395 e395 => ?_
  refine own_iloadN X395 hx 60 rfl (hb hby own_d11_59) rfl ?_
  refine own_aloadN X395 hx 61 rfl (hb hby own_d11_60) rfl rfl ?_
  refine own_getF X395 hx hZ (host := "") hown (Or.inl (own_hw hw 17 rfl)) Via.refl e395 f387 64 rfl (hb hby own_d11_61) fun T396 X396 e396 => ?_
  refine own_aloadN X396 hx 65 rfl (hb hby own_d11_64) rfl rfl ?_
  refine own_getF X396 hx hZ (host := "") hown (Or.inl (own_hw hw 26 rfl)) Via.refl e396 f389 68 rfl (hb hby own_d11_65) fun T397 X397 e397 => ?_
  refine own_ldD X397 hx hZ e397 f388 ⟨by decide, by decide⟩ d0 rfl 69 rfl (hb hby own_d11_68) ?_
  refine own_stD X397 hx hZ e397 f388 ⟨by decide, by decide⟩ 0 rfl (Nat.le_of_ble_eq_true rfl) [(.double d0), (.double d1), (.double d2)] rfl 70 rfl (hb hby own_d11_69) fun T398 h398 X398 e398 W398 f399 => ?_
  have f400 := f383.wr W398
  have f401 := f384.other W398 (Or.inl n_oa4)
  have f402 := f385.other W398 (Or.inl n_oa4)
  have f403 := f386.other W398 (Or.inl n_oa4)
  have f404 := f387.other W398 (Or.inl n_oa4)
  have f405 := f389.other W398 (Or.inl n_oa4)
  have f406 := f390.other W398 n_a1a4
  have f407 := f391.other W398 n_a2a4
  have f408 := f382.other W398 n_a3a4
  have z409 := Nat.le_trans z392 (Keep.of_wr W398).1
  have K410 := K393.wr W398 (Or.inl (List.mem_of_getElem? (i := 4) rfl))
  have N411 := Fr.snoc X398 N394 g_a4
  refine own_ret X398 none (fun _ => rfl) Bd.notSynchronized (by decide) (by decide) ?_ (fun fs hr => X398.returnOut hx Bd.returns (hb hby own_d11_70) hr)
  show Q_rm_mv10 Z o a1 a2 a3 a4 k1 k2 k3 k4 c0 c1 c2 r0 r1 r2 p0 p1 p2 d0 d1 d2 h0 n0 _ T398.heap _
  rw [e398]
  exact ⟨rfl, N411, K410, f405⟩
theorem own_ef_rm_mv20 (m : MethodId) (o : Addr) : entryFrame m #[(.ref o), (.int (0 : Int32))] 2 = mkF m 0 #[.val (.ref o), .val (.int (0 : Int32))] [] := by first | (simp [entryFrame, mkF, argsToLocals, Value.category]; done) | rfl
def Q_rm_mv20 (Z : State) (o : Addr) (a1 : Addr) (a2 : Addr) (a3 : Addr) (a4 : Addr) (k1 : ClassId) (k2 : ClassId) (k3 : ClassId) (k4 : ClassId) (c0 : Int32) (c1 : Int32) (c2 : Int32) (r0 : Int32) (r1 : Int32) (r2 : Int32) (p0 : Int32) (p1 : Int32) (p2 : Int32) (d0 : UInt64) (d1 : UInt64) (d2 : UInt64) (h0 : Heap) (n0 : Nat) (v : Option Value) (h : Heap) (L : List Loc) : Prop := v = none ∧ Fr n0 L ∧ Keep h0 h [o, a1, a2, a3, a4] ∧ Fld Z h o "com/example/prizepath/prizepath/Insertions" "size" "I" (.int (1 : Int32))
set_option maxRecDepth 65536 in
set_option maxHeartbeats 40000000 in
theorem rm_mv20 (l : Launch) (Z : State) (a0 : Array Value) (hw : ∀ d ∈ tables_1, d.before a0 Z = true) (ws : List Jvm.Cond) (o : Addr) (a1 : Addr) (a2 : Addr) (a3 : Addr) (a4 : Addr) (k1 : ClassId) (k2 : ClassId) (k3 : ClassId) (k4 : ClassId) (c0 : Int32) (c1 : Int32) (c2 : Int32) (r0 : Int32) (r1 : Int32) (r2 : Int32) (p0 : Int32) (p1 : Int32) (p2 : Int32) (d0 : UInt64) (d1 : UInt64) (d2 : UInt64) (h0 : Heap) (n0 : Nat) (Z0 : n0 ≤ h0.size) (E0 : Exa Z h0 o "com/example/prizepath/prizepath/Insertions") (F1 : Fld Z h0 o "com/example/prizepath/prizepath/Insertions" "customers" "[I" (.ref a1)) (F2 : Fld Z h0 o "com/example/prizepath/prizepath/Insertions" "routes" "[I" (.ref a2)) (F3 : Fld Z h0 o "com/example/prizepath/prizepath/Insertions" "places" "[I" (.ref a3)) (F4 : Fld Z h0 o "com/example/prizepath/prizepath/Insertions" "ranks" "[D" (.ref a4)) (A1 : Arv Z h0 a1 k1 .int (256 : Int32) [(.int c0), (.int c1), (.int c2)] (.int (0 : Int32))) (A2 : Arv Z h0 a2 k2 .int (256 : Int32) [(.int r0), (.int r1), (.int r2)] (.int (0 : Int32))) (A3 : Arv Z h0 a3 k3 .int (256 : Int32) [(.int p0), (.int p1), (.int p2)] (.int (0 : Int32))) (A4 : Arv Z h0 a4 k4 .double (256 : Int32) [(.double d0), (.double d1), (.double d2)] (.double (0 : UInt64))) (FZ : Fld Z h0 o "com/example/prizepath/prizepath/Insertions" "size" "I" (.int (2 : Int32))) (g_o : n0 ≤ o) (g_a1 : n0 ≤ a1) (g_a2 : n0 ≤ a2) (g_a3 : n0 ≤ a3) (g_a4 : n0 ≤ a4) (n_oa1 : o ≠ a1) (n_oa2 : o ≠ a2) (n_oa3 : o ≠ a3) (n_oa4 : o ≠ a4) (n_a1a2 : a1 ≠ a2) (n_a1a3 : a1 ≠ a3) (n_a1a4 : a1 ≠ a4) (n_a2a3 : a2 ≠ a3) (n_a2a4 : a2 ≠ a4) (n_a3a4 : a3 ≠ a4) :
    MetFree l (⟨"com/example/prizepath/prizepath/Insertions", "moveLastTo", "(I)V"⟩ : MethodName) (head1 (Jvm.Cond.code (⟨"com/example/prizepath/prizepath/Insertions", "moveLastTo", "(I)V"⟩ : MethodName) prog_15_method_12_code 2 none :: ws) ({ frames := 0, cells := 0, slots := 0, locals := 0 } : Room)) (fun aa U => aa = #[(.ref o), (.int (0 : Int32))] ∧ Z.Warmed39 U.vm ∧ U.heap = h0) (fun _ _ _ _ _ => True) (fun _ U ou U' => ∃ v L, ou = .returned v ∧ Q_rm_mv20 Z o a1 a2 a3 a4 k1 k2 k3 k4 c0 c1 c2 r0 r1 r2 p0 p1 p2 d0 d1 d2 h0 n0 v U'.heap L ∧ FrameEnd U ou U' L ({ frames := 0, cells := 0, slots := 0, locals := 0 } : Room).cells ({ frames := 0, cells := 0, slots := 0, locals := 0 } : Room).slots) := by
  refine MetFree.of_bodySF (plainFor_of_name own_pn2) hisR ?_
  intro p e s m args below meth c s₁ Bd hml0 hP hK
  obtain ⟨rfl, hZ, hh⟩ := hP
  have hx := Bd.exec
  have hby := Bd.bytes
  have hml : c.maxLocals = 2 := hml0
  have hown : s.vm.findClass "com/example/prizepath/prizepath/Insertions" = some m.cls := findClass_of_methodNamed Bd.named
  have hnm := (name_of_methodNamed Bd.named Bd.method).1
  have X0 : Stand p l e ({ frames := 0, cells := 0, slots := 0, locals := 0 } : Room) s m #[(.ref o), (.int (0 : Int32))] below meth c s₁ [] 0 0 := Stand.of_body Bd
  have e0 : s₁.heap = h0 := by rw [← hh, Bd.state]; rfl
  have N0 := Fr.nil n0
  have K0 := Keep.refl h0 [o, a1, a2, a3, a4]
  show own_Go p e below (fun o u L => FrameEnd s o u L ({ frames := 0, cells := 0, slots := 0, locals := 0 } : Room).cells ({ frames := 0, cells := 0, slots := 0, locals := 0 } : Room).slots) (Q_rm_mv20 Z o a1 a2 a3 a4 k1 k2 k3 k4 c0 c1 c2 r0 r1 r2 p0 p1 p2 d0 d1 d2 h0 n0) (s₁.setTop (entryFrame m #[(.ref o), (.int (0 : Int32))] 2))
  rw [own_ef_rm_mv20 m o]
  show own_Go _ _ _ _ _ (State.setTop _ (mkF _ 0 #[.val (.ref o), .val (.int (0 : Int32))] []))
  refine own_aloadN X0 hx 1 rfl (hb hby own_d11_0) rfl rfl ?_
  refine own_dup X0 hx 2 rfl (hb hby own_d11_1) rfl ?_
  refine own_getF X0 hx hZ (host := "") hown (Or.inl (own_hw hw 26 rfl)) Via.refl e0 FZ 5 rfl (hb hby own_d11_2) fun T412 X412 e412 => ?_
  refine own_iconst X412 hx 6 rfl (hb hby own_d11_5) (1 : Int32) rfl ?_
  refine own_isub X412 hx 7 rfl (hb hby own_d11_6) (1 : Int32) rfl ?_
  refine own_putF X412 hx hZ (host := "") hown (Or.inl (own_hw hw 26 rfl)) Via.refl e412 FZ E0 (Or.inl (own_hw hw 27 rfl)) (own_hw hw 1 rfl) (ty := .int) (by decide) rfl rfl 10 rfl (hb hby own_d11_7) fun T413 h413 X413 e413 W413 => ?_
  have f414 := E0.wr W413
  have f415 := F1.other W413 (Or.inr (slot_ne (Or.inl (own_hw hw 11 rfl)) (Or.inl (own_hw hw 27 rfl)) (by decide) (t := (.array .int)) (t' := .int) (by decide) (by decide)))
  have f416 := F2.other W413 (Or.inr (slot_ne (Or.inl (own_hw hw 13 rfl)) (Or.inl (own_hw hw 27 rfl)) (by decide) (t := (.array .int)) (t' := .int) (by decide) (by decide)))
  have f417 := F3.other W413 (Or.inr (slot_ne (Or.inl (own_hw hw 15 rfl)) (Or.inl (own_hw hw 27 rfl)) (by decide) (t := (.array .int)) (t' := .int) (by decide) (by decide)))
  have f418 := F4.other W413 (Or.inr (slot_ne (Or.inl (own_hw hw 18 rfl)) (Or.inl (own_hw hw 27 rfl)) (by decide) (t := (.array .double)) (t' := .int) (by decide) (by decide)))
  have f419 := A1.other W413 (Ne.symm n_oa1)
  have f420 := A2.other W413 (Ne.symm n_oa2)
  have f421 := A3.other W413 (Ne.symm n_oa3)
  have f422 := A4.other W413 (Ne.symm n_oa4)
  have z423 := Nat.le_trans Z0 (Keep.of_wr W413).1
  have K424 := K0.wr W413 (Or.inl (List.mem_of_getElem? (i := 0) rfl))
  have f425 := FZ.same W413
  have N426 := Fr.snoc X413 N0 g_o
  refine own_aloadN X413 hx 11 rfl (hb hby own_d11_10) rfl rfl ?_
  refine own_getF X413 hx hZ (host := "") hown (Or.inl (own_hw hw 10 rfl)) Via.refl e413 f415 14 rfl (hb hby own_d11_11) fun T427 X427 e427 => ?_
  refine own_iloadN X427 hx 15 rfl (hb hby own_d11_14) rfl ?_
  refine own_aloadN X427 hx 16 rfl (hb hby own_d11_15) rfl rfl ?_
  refine own_getF X427 hx hZ (host := "") hown (Or.inl (own_hw hw 10 rfl)) Via.refl e427 f415 19 rfl (hb hby own_d11_16) fun T428 X428 e428 => ?_
  refine own_aloadN X428 hx 20 rfl (hb hby own_d11_19) rfl rfl ?_
  refine own_getF X428 hx hZ (host := "") hown (Or.inl (own_hw hw 26 rfl)) Via.refl e428 f425 23 rfl (hb hby own_d11_20) fun T429 X429 e429 => ?_
  refine own_ldI X429 hx hZ e429 f419 ⟨by decide, by decide⟩ c1 rfl 24 rfl (hb hby own_d11_23) ?_
  refine own_stI X429 hx hZ e429 f419 ⟨by decide, by decide⟩ 0 rfl (Nat.le_of_ble_eq_true rfl) [(.int c1), (.int c1), (.int c2)] rfl 25 rfl (hb hby own_d11_24) fun T430 h430 X430 e430 W430 f431 => ?_
  have f432 := f414.wr W430
  have f433 := f415.other W430 (Or.inl n_oa1)
  have f434 := f416.other W430 (Or.inl n_oa1)
  have f435 := f417.other W430 (Or.inl n_oa1)
  have f436 := f418.other W430 (Or.inl n_oa1)
  have f437 := f420.other W430 (Ne.symm n_a1a2)
  have f438 := f421.other W430 (Ne.symm n_a1a3)
  have f439 := f422.other W430 (Ne.symm n_a1a4)
  have f440 := f425.other W430 (Or.inl n_oa1)
  have z441 := Nat.le_trans z423 (Keep.of_wr W430).1
  have K442 := K424.wr W430 (Or.inl (List.mem_of_getElem? (i := 1) rfl))
  have N443 := Fr.snoc X430 N426 g_a1
  refine own_aloadN X430 hx 26 rfl (hb hby own_d11_25) rfl rfl ?_
  refine own_getF X430 hx hZ (host := "") hown (Or.inl (own_hw hw 12 rfl)) Via.refl e430 f434 29 rfl (hb hby own_d11_26) fun T444 X444 e444 => ?_
  refine own_iloadN X444 hx 30 rfl (hb hby own_d11_29) rfl ?_
  refine own_aloadN X444 hx 31 rfl (hb hby own_d11_30) rfl rfl ?_
  refine own_getF X444 hx hZ (host := "") hown (Or.inl (own_hw hw 12 rfl)) Via.refl e444 f434 34 rfl (hb hby own_d11_31) fun T445 X445 e445 => ?_
  refine own_aloadN X445 hx 35 rfl (hb hby own_d11_34) rfl rfl ?_
  refine own_getF X445 hx hZ (host := "") hown (Or.inl (own_hw hw 26 rfl)) Via.refl e445 f440 38 rfl (hb hby own_d11_35) fun T446 X446 e446 => ?_
  refine own_ldI X446 hx hZ e446 f437 ⟨by decide, by decide⟩ r1 rfl 39 rfl (hb hby own_d11_38) ?_
  refine own_stI X446 hx hZ e446 f437 ⟨by decide, by decide⟩ 0 rfl (Nat.le_of_ble_eq_true rfl) [(.int r1), (.int r1), (.int r2)] rfl 40 rfl (hb hby own_d11_39) fun T447 h447 X447 e447 W447 f448 => ?_
  have f449 := f432.wr W447
  have f450 := f433.other W447 (Or.inl n_oa2)
  have f451 := f434.other W447 (Or.inl n_oa2)
  have f452 := f435.other W447 (Or.inl n_oa2)
  have f453 := f436.other W447 (Or.inl n_oa2)
  have f454 := f438.other W447 (Ne.symm n_a2a3)
  have f455 := f439.other W447 (Ne.symm n_a2a4)
  have f456 := f440.other W447 (Or.inl n_oa2)
  have f457 := f431.other W447 n_a1a2
  have z458 := Nat.le_trans z441 (Keep.of_wr W447).1
  have K459 := K442.wr W447 (Or.inl (List.mem_of_getElem? (i := 2) rfl))
  have N460 := Fr.snoc X447 N443 g_a2
  refine own_aloadN X447 hx 41 rfl (hb hby own_d11_40) rfl rfl ?_
  refine own_getF X447 hx hZ (host := "") hown (Or.inl (own_hw hw 14 rfl)) Via.refl e447 f452 44 rfl (hb hby own_d11_41) fun T461 X461 e461 => ?_
  refine own_iloadN X461 hx 45 rfl (hb hby own_d11_44) rfl ?_
  refine own_aloadN X461 hx 46 rfl (hb hby own_d11_45) rfl rfl ?_
  refine own_getF X461 hx hZ (host := "") hown (Or.inl (own_hw hw 14 rfl)) Via.refl e461 f452 49 rfl (hb hby own_d11_46) fun T462 X462 e462 => ?_
  refine own_aloadN X462 hx 50 rfl (hb hby own_d11_49) rfl rfl ?_
  refine own_getF X462 hx hZ (host := "") hown (Or.inl (own_hw hw 26 rfl)) Via.refl e462 f456 53 rfl (hb hby own_d11_50) fun T463 X463 e463 => ?_
  refine own_ldI X463 hx hZ e463 f454 ⟨by decide, by decide⟩ p1 rfl 54 rfl (hb hby own_d11_53) ?_
  refine own_stI X463 hx hZ e463 f454 ⟨by decide, by decide⟩ 0 rfl (Nat.le_of_ble_eq_true rfl) [(.int p1), (.int p1), (.int p2)] rfl 55 rfl (hb hby own_d11_54) fun T464 h464 X464 e464 W464 f465 => ?_
  have f466 := f449.wr W464
  have f467 := f450.other W464 (Or.inl n_oa3)
  have f468 := f451.other W464 (Or.inl n_oa3)
  have f469 := f452.other W464 (Or.inl n_oa3)
  have f470 := f453.other W464 (Or.inl n_oa3)
  have f471 := f455.other W464 (Ne.symm n_a3a4)
  have f472 := f456.other W464 (Or.inl n_oa3)
  have f473 := f457.other W464 n_a1a3
  have f474 := f448.other W464 n_a2a3
  have z475 := Nat.le_trans z458 (Keep.of_wr W464).1
  have K476 := K459.wr W464 (Or.inl (List.mem_of_getElem? (i := 3) rfl))
  have N477 := Fr.snoc X464 N460 g_a3
  refine own_aloadN X464 hx 56 rfl (hb hby own_d11_55) rfl rfl ?_
  refine own_getF X464 hx hZ (host := "") hown (Or.inl (own_hw hw 17 rfl)) Via.refl e464 f470 59 rfl (hb hby own_d11_56) fun T478 X478 e478 => ?_
  refine own_iloadN X478 hx 60 rfl (hb hby own_d11_59) rfl ?_
  refine own_aloadN X478 hx 61 rfl (hb hby own_d11_60) rfl rfl ?_
  refine own_getF X478 hx hZ (host := "") hown (Or.inl (own_hw hw 17 rfl)) Via.refl e478 f470 64 rfl (hb hby own_d11_61) fun T479 X479 e479 => ?_
  refine own_aloadN X479 hx 65 rfl (hb hby own_d11_64) rfl rfl ?_
  refine own_getF X479 hx hZ (host := "") hown (Or.inl (own_hw hw 26 rfl)) Via.refl e479 f472 68 rfl (hb hby own_d11_65) fun T480 X480 e480 => ?_
  refine own_ldD X480 hx hZ e480 f471 ⟨by decide, by decide⟩ d1 rfl 69 rfl (hb hby own_d11_68) ?_
  refine own_stD X480 hx hZ e480 f471 ⟨by decide, by decide⟩ 0 rfl (Nat.le_of_ble_eq_true rfl) [(.double d1), (.double d1), (.double d2)] rfl 70 rfl (hb hby own_d11_69) fun T481 h481 X481 e481 W481 f482 => ?_
  have f483 := f466.wr W481
  have f484 := f467.other W481 (Or.inl n_oa4)
  have f485 := f468.other W481 (Or.inl n_oa4)
  have f486 := f469.other W481 (Or.inl n_oa4)
  have f487 := f470.other W481 (Or.inl n_oa4)
  have f488 := f472.other W481 (Or.inl n_oa4)
  have f489 := f473.other W481 n_a1a4
  have f490 := f474.other W481 n_a2a4
  have f491 := f465.other W481 n_a3a4
  have z492 := Nat.le_trans z475 (Keep.of_wr W481).1
  have K493 := K476.wr W481 (Or.inl (List.mem_of_getElem? (i := 4) rfl))
  have N494 := Fr.snoc X481 N477 g_a4
  refine own_ret X481 none (fun _ => rfl) Bd.notSynchronized (by decide) (by decide) ?_ (fun fs hr => X481.returnOut hx Bd.returns (hb hby own_d11_70) hr)
  show Q_rm_mv20 Z o a1 a2 a3 a4 k1 k2 k3 k4 c0 c1 c2 r0 r1 r2 p0 p1 p2 d0 d1 d2 h0 n0 _ T481.heap _
  rw [e481]
  exact ⟨rfl, N494, K493, f488⟩
theorem own_ef_rm_mv21 (m : MethodId) (o : Addr) : entryFrame m #[(.ref o), (.int (1 : Int32))] 2 = mkF m 0 #[.val (.ref o), .val (.int (1 : Int32))] [] := by first | (simp [entryFrame, mkF, argsToLocals, Value.category]; done) | rfl
def Q_rm_mv21 (Z : State) (o : Addr) (a1 : Addr) (a2 : Addr) (a3 : Addr) (a4 : Addr) (k1 : ClassId) (k2 : ClassId) (k3 : ClassId) (k4 : ClassId) (c0 : Int32) (c1 : Int32) (c2 : Int32) (r0 : Int32) (r1 : Int32) (r2 : Int32) (p0 : Int32) (p1 : Int32) (p2 : Int32) (d0 : UInt64) (d1 : UInt64) (d2 : UInt64) (h0 : Heap) (n0 : Nat) (v : Option Value) (h : Heap) (L : List Loc) : Prop := v = none ∧ Fr n0 L ∧ Keep h0 h [o, a1, a2, a3, a4] ∧ Fld Z h o "com/example/prizepath/prizepath/Insertions" "size" "I" (.int (1 : Int32))
set_option maxRecDepth 65536 in
set_option maxHeartbeats 40000000 in
theorem rm_mv21 (l : Launch) (Z : State) (a0 : Array Value) (hw : ∀ d ∈ tables_1, d.before a0 Z = true) (ws : List Jvm.Cond) (o : Addr) (a1 : Addr) (a2 : Addr) (a3 : Addr) (a4 : Addr) (k1 : ClassId) (k2 : ClassId) (k3 : ClassId) (k4 : ClassId) (c0 : Int32) (c1 : Int32) (c2 : Int32) (r0 : Int32) (r1 : Int32) (r2 : Int32) (p0 : Int32) (p1 : Int32) (p2 : Int32) (d0 : UInt64) (d1 : UInt64) (d2 : UInt64) (h0 : Heap) (n0 : Nat) (Z0 : n0 ≤ h0.size) (E0 : Exa Z h0 o "com/example/prizepath/prizepath/Insertions") (F1 : Fld Z h0 o "com/example/prizepath/prizepath/Insertions" "customers" "[I" (.ref a1)) (F2 : Fld Z h0 o "com/example/prizepath/prizepath/Insertions" "routes" "[I" (.ref a2)) (F3 : Fld Z h0 o "com/example/prizepath/prizepath/Insertions" "places" "[I" (.ref a3)) (F4 : Fld Z h0 o "com/example/prizepath/prizepath/Insertions" "ranks" "[D" (.ref a4)) (A1 : Arv Z h0 a1 k1 .int (256 : Int32) [(.int c0), (.int c1), (.int c2)] (.int (0 : Int32))) (A2 : Arv Z h0 a2 k2 .int (256 : Int32) [(.int r0), (.int r1), (.int r2)] (.int (0 : Int32))) (A3 : Arv Z h0 a3 k3 .int (256 : Int32) [(.int p0), (.int p1), (.int p2)] (.int (0 : Int32))) (A4 : Arv Z h0 a4 k4 .double (256 : Int32) [(.double d0), (.double d1), (.double d2)] (.double (0 : UInt64))) (FZ : Fld Z h0 o "com/example/prizepath/prizepath/Insertions" "size" "I" (.int (2 : Int32))) (g_o : n0 ≤ o) (g_a1 : n0 ≤ a1) (g_a2 : n0 ≤ a2) (g_a3 : n0 ≤ a3) (g_a4 : n0 ≤ a4) (n_oa1 : o ≠ a1) (n_oa2 : o ≠ a2) (n_oa3 : o ≠ a3) (n_oa4 : o ≠ a4) (n_a1a2 : a1 ≠ a2) (n_a1a3 : a1 ≠ a3) (n_a1a4 : a1 ≠ a4) (n_a2a3 : a2 ≠ a3) (n_a2a4 : a2 ≠ a4) (n_a3a4 : a3 ≠ a4) :
    MetFree l (⟨"com/example/prizepath/prizepath/Insertions", "moveLastTo", "(I)V"⟩ : MethodName) (head1 (Jvm.Cond.code (⟨"com/example/prizepath/prizepath/Insertions", "moveLastTo", "(I)V"⟩ : MethodName) prog_15_method_12_code 2 none :: ws) ({ frames := 0, cells := 0, slots := 0, locals := 0 } : Room)) (fun aa U => aa = #[(.ref o), (.int (1 : Int32))] ∧ Z.Warmed39 U.vm ∧ U.heap = h0) (fun _ _ _ _ _ => True) (fun _ U ou U' => ∃ v L, ou = .returned v ∧ Q_rm_mv21 Z o a1 a2 a3 a4 k1 k2 k3 k4 c0 c1 c2 r0 r1 r2 p0 p1 p2 d0 d1 d2 h0 n0 v U'.heap L ∧ FrameEnd U ou U' L ({ frames := 0, cells := 0, slots := 0, locals := 0 } : Room).cells ({ frames := 0, cells := 0, slots := 0, locals := 0 } : Room).slots) := by
  refine MetFree.of_bodySF (plainFor_of_name own_pn2) hisR ?_
  intro p e s m args below meth c s₁ Bd hml0 hP hK
  obtain ⟨rfl, hZ, hh⟩ := hP
  have hx := Bd.exec
  have hby := Bd.bytes
  have hml : c.maxLocals = 2 := hml0
  have hown : s.vm.findClass "com/example/prizepath/prizepath/Insertions" = some m.cls := findClass_of_methodNamed Bd.named
  have hnm := (name_of_methodNamed Bd.named Bd.method).1
  have X0 : Stand p l e ({ frames := 0, cells := 0, slots := 0, locals := 0 } : Room) s m #[(.ref o), (.int (1 : Int32))] below meth c s₁ [] 0 0 := Stand.of_body Bd
  have e0 : s₁.heap = h0 := by rw [← hh, Bd.state]; rfl
  have N0 := Fr.nil n0
  have K0 := Keep.refl h0 [o, a1, a2, a3, a4]
  show own_Go p e below (fun o u L => FrameEnd s o u L ({ frames := 0, cells := 0, slots := 0, locals := 0 } : Room).cells ({ frames := 0, cells := 0, slots := 0, locals := 0 } : Room).slots) (Q_rm_mv21 Z o a1 a2 a3 a4 k1 k2 k3 k4 c0 c1 c2 r0 r1 r2 p0 p1 p2 d0 d1 d2 h0 n0) (s₁.setTop (entryFrame m #[(.ref o), (.int (1 : Int32))] 2))
  rw [own_ef_rm_mv21 m o]
  show own_Go _ _ _ _ _ (State.setTop _ (mkF _ 0 #[.val (.ref o), .val (.int (1 : Int32))] []))
  refine own_aloadN X0 hx 1 rfl (hb hby own_d11_0) rfl rfl ?_
  refine own_dup X0 hx 2 rfl (hb hby own_d11_1) rfl ?_
  refine own_getF X0 hx hZ (host := "") hown (Or.inl (own_hw hw 26 rfl)) Via.refl e0 FZ 5 rfl (hb hby own_d11_2) fun T495 X495 e495 => ?_
  refine own_iconst X495 hx 6 rfl (hb hby own_d11_5) (1 : Int32) rfl ?_
  refine own_isub X495 hx 7 rfl (hb hby own_d11_6) (1 : Int32) rfl ?_
  refine own_putF X495 hx hZ (host := "") hown (Or.inl (own_hw hw 26 rfl)) Via.refl e495 FZ E0 (Or.inl (own_hw hw 27 rfl)) (own_hw hw 1 rfl) (ty := .int) (by decide) rfl rfl 10 rfl (hb hby own_d11_7) fun T496 h496 X496 e496 W496 => ?_
  have f497 := E0.wr W496
  have f498 := F1.other W496 (Or.inr (slot_ne (Or.inl (own_hw hw 11 rfl)) (Or.inl (own_hw hw 27 rfl)) (by decide) (t := (.array .int)) (t' := .int) (by decide) (by decide)))
  have f499 := F2.other W496 (Or.inr (slot_ne (Or.inl (own_hw hw 13 rfl)) (Or.inl (own_hw hw 27 rfl)) (by decide) (t := (.array .int)) (t' := .int) (by decide) (by decide)))
  have f500 := F3.other W496 (Or.inr (slot_ne (Or.inl (own_hw hw 15 rfl)) (Or.inl (own_hw hw 27 rfl)) (by decide) (t := (.array .int)) (t' := .int) (by decide) (by decide)))
  have f501 := F4.other W496 (Or.inr (slot_ne (Or.inl (own_hw hw 18 rfl)) (Or.inl (own_hw hw 27 rfl)) (by decide) (t := (.array .double)) (t' := .int) (by decide) (by decide)))
  have f502 := A1.other W496 (Ne.symm n_oa1)
  have f503 := A2.other W496 (Ne.symm n_oa2)
  have f504 := A3.other W496 (Ne.symm n_oa3)
  have f505 := A4.other W496 (Ne.symm n_oa4)
  have z506 := Nat.le_trans Z0 (Keep.of_wr W496).1
  have K507 := K0.wr W496 (Or.inl (List.mem_of_getElem? (i := 0) rfl))
  have f508 := FZ.same W496
  have N509 := Fr.snoc X496 N0 g_o
  refine own_aloadN X496 hx 11 rfl (hb hby own_d11_10) rfl rfl ?_
  refine own_getF X496 hx hZ (host := "") hown (Or.inl (own_hw hw 10 rfl)) Via.refl e496 f498 14 rfl (hb hby own_d11_11) fun T510 X510 e510 => ?_
  refine own_iloadN X510 hx 15 rfl (hb hby own_d11_14) rfl ?_
  refine own_aloadN X510 hx 16 rfl (hb hby own_d11_15) rfl rfl ?_
  refine own_getF X510 hx hZ (host := "") hown (Or.inl (own_hw hw 10 rfl)) Via.refl e510 f498 19 rfl (hb hby own_d11_16) fun T511 X511 e511 => ?_
  refine own_aloadN X511 hx 20 rfl (hb hby own_d11_19) rfl rfl ?_
  refine own_getF X511 hx hZ (host := "") hown (Or.inl (own_hw hw 26 rfl)) Via.refl e511 f508 23 rfl (hb hby own_d11_20) fun T512 X512 e512 => ?_
  refine own_ldI X512 hx hZ e512 f502 ⟨by decide, by decide⟩ c1 rfl 24 rfl (hb hby own_d11_23) ?_
  refine own_stI X512 hx hZ e512 f502 ⟨by decide, by decide⟩ 1 rfl (Nat.le_of_ble_eq_true rfl) [(.int c0), (.int c1), (.int c2)] rfl 25 rfl (hb hby own_d11_24) fun T513 h513 X513 e513 W513 f514 => ?_
  have f515 := f497.wr W513
  have f516 := f498.other W513 (Or.inl n_oa1)
  have f517 := f499.other W513 (Or.inl n_oa1)
  have f518 := f500.other W513 (Or.inl n_oa1)
  have f519 := f501.other W513 (Or.inl n_oa1)
  have f520 := f503.other W513 (Ne.symm n_a1a2)
  have f521 := f504.other W513 (Ne.symm n_a1a3)
  have f522 := f505.other W513 (Ne.symm n_a1a4)
  have f523 := f508.other W513 (Or.inl n_oa1)
  have z524 := Nat.le_trans z506 (Keep.of_wr W513).1
  have K525 := K507.wr W513 (Or.inl (List.mem_of_getElem? (i := 1) rfl))
  have N526 := Fr.snoc X513 N509 g_a1
  refine own_aloadN X513 hx 26 rfl (hb hby own_d11_25) rfl rfl ?_
  refine own_getF X513 hx hZ (host := "") hown (Or.inl (own_hw hw 12 rfl)) Via.refl e513 f517 29 rfl (hb hby own_d11_26) fun T527 X527 e527 => ?_
  refine own_iloadN X527 hx 30 rfl (hb hby own_d11_29) rfl ?_
  refine own_aloadN X527 hx 31 rfl (hb hby own_d11_30) rfl rfl ?_
  refine own_getF X527 hx hZ (host := "") hown (Or.inl (own_hw hw 12 rfl)) Via.refl e527 f517 34 rfl (hb hby own_d11_31) fun T528 X528 e528 => ?_
  refine own_aloadN X528 hx 35 rfl (hb hby own_d11_34) rfl rfl ?_
  refine own_getF X528 hx hZ (host := "") hown (Or.inl (own_hw hw 26 rfl)) Via.refl e528 f523 38 rfl (hb hby own_d11_35) fun T529 X529 e529 => ?_
  refine own_ldI X529 hx hZ e529 f520 ⟨by decide, by decide⟩ r1 rfl 39 rfl (hb hby own_d11_38) ?_
  refine own_stI X529 hx hZ e529 f520 ⟨by decide, by decide⟩ 1 rfl (Nat.le_of_ble_eq_true rfl) [(.int r0), (.int r1), (.int r2)] rfl 40 rfl (hb hby own_d11_39) fun T530 h530 X530 e530 W530 f531 => ?_
  have f532 := f515.wr W530
  have f533 := f516.other W530 (Or.inl n_oa2)
  have f534 := f517.other W530 (Or.inl n_oa2)
  have f535 := f518.other W530 (Or.inl n_oa2)
  have f536 := f519.other W530 (Or.inl n_oa2)
  have f537 := f521.other W530 (Ne.symm n_a2a3)
  have f538 := f522.other W530 (Ne.symm n_a2a4)
  have f539 := f523.other W530 (Or.inl n_oa2)
  have f540 := f514.other W530 n_a1a2
  have z541 := Nat.le_trans z524 (Keep.of_wr W530).1
  have K542 := K525.wr W530 (Or.inl (List.mem_of_getElem? (i := 2) rfl))
  have N543 := Fr.snoc X530 N526 g_a2
  refine own_aloadN X530 hx 41 rfl (hb hby own_d11_40) rfl rfl ?_
  refine own_getF X530 hx hZ (host := "") hown (Or.inl (own_hw hw 14 rfl)) Via.refl e530 f535 44 rfl (hb hby own_d11_41) fun T544 X544 e544 => ?_
  refine own_iloadN X544 hx 45 rfl (hb hby own_d11_44) rfl ?_
  refine own_aloadN X544 hx 46 rfl (hb hby own_d11_45) rfl rfl ?_
  refine own_getF X544 hx hZ (host := "") hown (Or.inl (own_hw hw 14 rfl)) Via.refl e544 f535 49 rfl (hb hby own_d11_46) fun T545 X545 e545 => ?_
  refine own_aloadN X545 hx 50 rfl (hb hby own_d11_49) rfl rfl ?_
  refine own_getF X545 hx hZ (host := "") hown (Or.inl (own_hw hw 26 rfl)) Via.refl e545 f539 53 rfl (hb hby own_d11_50) fun T546 X546 e546 => ?_
  refine own_ldI X546 hx hZ e546 f537 ⟨by decide, by decide⟩ p1 rfl 54 rfl (hb hby own_d11_53) ?_
  refine own_stI X546 hx hZ e546 f537 ⟨by decide, by decide⟩ 1 rfl (Nat.le_of_ble_eq_true rfl) [(.int p0), (.int p1), (.int p2)] rfl 55 rfl (hb hby own_d11_54) fun T547 h547 X547 e547 W547 f548 => ?_
  have f549 := f532.wr W547
  have f550 := f533.other W547 (Or.inl n_oa3)
  have f551 := f534.other W547 (Or.inl n_oa3)
  have f552 := f535.other W547 (Or.inl n_oa3)
  have f553 := f536.other W547 (Or.inl n_oa3)
  have f554 := f538.other W547 (Ne.symm n_a3a4)
  have f555 := f539.other W547 (Or.inl n_oa3)
  have f556 := f540.other W547 n_a1a3
  have f557 := f531.other W547 n_a2a3
  have z558 := Nat.le_trans z541 (Keep.of_wr W547).1
  have K559 := K542.wr W547 (Or.inl (List.mem_of_getElem? (i := 3) rfl))
  have N560 := Fr.snoc X547 N543 g_a3
  refine own_aloadN X547 hx 56 rfl (hb hby own_d11_55) rfl rfl ?_
  refine own_getF X547 hx hZ (host := "") hown (Or.inl (own_hw hw 17 rfl)) Via.refl e547 f553 59 rfl (hb hby own_d11_56) fun T561 X561 e561 => ?_
  refine own_iloadN X561 hx 60 rfl (hb hby own_d11_59) rfl ?_
  refine own_aloadN X561 hx 61 rfl (hb hby own_d11_60) rfl rfl ?_
  refine own_getF X561 hx hZ (host := "") hown (Or.inl (own_hw hw 17 rfl)) Via.refl e561 f553 64 rfl (hb hby own_d11_61) fun T562 X562 e562 => ?_
  refine own_aloadN X562 hx 65 rfl (hb hby own_d11_64) rfl rfl ?_
  refine own_getF X562 hx hZ (host := "") hown (Or.inl (own_hw hw 26 rfl)) Via.refl e562 f555 68 rfl (hb hby own_d11_65) fun T563 X563 e563 => ?_
  refine own_ldD X563 hx hZ e563 f554 ⟨by decide, by decide⟩ d1 rfl 69 rfl (hb hby own_d11_68) ?_
  refine own_stD X563 hx hZ e563 f554 ⟨by decide, by decide⟩ 1 rfl (Nat.le_of_ble_eq_true rfl) [(.double d0), (.double d1), (.double d2)] rfl 70 rfl (hb hby own_d11_69) fun T564 h564 X564 e564 W564 f565 => ?_
  have f566 := f549.wr W564
  have f567 := f550.other W564 (Or.inl n_oa4)
  have f568 := f551.other W564 (Or.inl n_oa4)
  have f569 := f552.other W564 (Or.inl n_oa4)
  have f570 := f553.other W564 (Or.inl n_oa4)
  have f571 := f555.other W564 (Or.inl n_oa4)
  have f572 := f556.other W564 n_a1a4
  have f573 := f557.other W564 n_a2a4
  have f574 := f548.other W564 n_a3a4
  have z575 := Nat.le_trans z558 (Keep.of_wr W564).1
  have K576 := K559.wr W564 (Or.inl (List.mem_of_getElem? (i := 4) rfl))
  have N577 := Fr.snoc X564 N560 g_a4
  refine own_ret X564 none (fun _ => rfl) Bd.notSynchronized (by decide) (by decide) ?_ (fun fs hr => X564.returnOut hx Bd.returns (hb hby own_d11_70) hr)
  show Q_rm_mv21 Z o a1 a2 a3 a4 k1 k2 k3 k4 c0 c1 c2 r0 r1 r2 p0 p1 p2 d0 d1 d2 h0 n0 _ T564.heap _
  rw [e564]
  exact ⟨rfl, N577, K576, f571⟩
theorem own_ef_rm_mv30 (m : MethodId) (o : Addr) : entryFrame m #[(.ref o), (.int (0 : Int32))] 2 = mkF m 0 #[.val (.ref o), .val (.int (0 : Int32))] [] := by first | (simp [entryFrame, mkF, argsToLocals, Value.category]; done) | rfl
def Q_rm_mv30 (Z : State) (o : Addr) (a1 : Addr) (a2 : Addr) (a3 : Addr) (a4 : Addr) (k1 : ClassId) (k2 : ClassId) (k3 : ClassId) (k4 : ClassId) (c0 : Int32) (c1 : Int32) (c2 : Int32) (r0 : Int32) (r1 : Int32) (r2 : Int32) (p0 : Int32) (p1 : Int32) (p2 : Int32) (d0 : UInt64) (d1 : UInt64) (d2 : UInt64) (h0 : Heap) (n0 : Nat) (v : Option Value) (h : Heap) (L : List Loc) : Prop := v = none ∧ Fr n0 L ∧ Keep h0 h [o, a1, a2, a3, a4] ∧ Fld Z h o "com/example/prizepath/prizepath/Insertions" "size" "I" (.int (2 : Int32))
set_option maxRecDepth 65536 in
set_option maxHeartbeats 40000000 in
theorem rm_mv30 (l : Launch) (Z : State) (a0 : Array Value) (hw : ∀ d ∈ tables_1, d.before a0 Z = true) (ws : List Jvm.Cond) (o : Addr) (a1 : Addr) (a2 : Addr) (a3 : Addr) (a4 : Addr) (k1 : ClassId) (k2 : ClassId) (k3 : ClassId) (k4 : ClassId) (c0 : Int32) (c1 : Int32) (c2 : Int32) (r0 : Int32) (r1 : Int32) (r2 : Int32) (p0 : Int32) (p1 : Int32) (p2 : Int32) (d0 : UInt64) (d1 : UInt64) (d2 : UInt64) (h0 : Heap) (n0 : Nat) (Z0 : n0 ≤ h0.size) (E0 : Exa Z h0 o "com/example/prizepath/prizepath/Insertions") (F1 : Fld Z h0 o "com/example/prizepath/prizepath/Insertions" "customers" "[I" (.ref a1)) (F2 : Fld Z h0 o "com/example/prizepath/prizepath/Insertions" "routes" "[I" (.ref a2)) (F3 : Fld Z h0 o "com/example/prizepath/prizepath/Insertions" "places" "[I" (.ref a3)) (F4 : Fld Z h0 o "com/example/prizepath/prizepath/Insertions" "ranks" "[D" (.ref a4)) (A1 : Arv Z h0 a1 k1 .int (256 : Int32) [(.int c0), (.int c1), (.int c2)] (.int (0 : Int32))) (A2 : Arv Z h0 a2 k2 .int (256 : Int32) [(.int r0), (.int r1), (.int r2)] (.int (0 : Int32))) (A3 : Arv Z h0 a3 k3 .int (256 : Int32) [(.int p0), (.int p1), (.int p2)] (.int (0 : Int32))) (A4 : Arv Z h0 a4 k4 .double (256 : Int32) [(.double d0), (.double d1), (.double d2)] (.double (0 : UInt64))) (FZ : Fld Z h0 o "com/example/prizepath/prizepath/Insertions" "size" "I" (.int (3 : Int32))) (g_o : n0 ≤ o) (g_a1 : n0 ≤ a1) (g_a2 : n0 ≤ a2) (g_a3 : n0 ≤ a3) (g_a4 : n0 ≤ a4) (n_oa1 : o ≠ a1) (n_oa2 : o ≠ a2) (n_oa3 : o ≠ a3) (n_oa4 : o ≠ a4) (n_a1a2 : a1 ≠ a2) (n_a1a3 : a1 ≠ a3) (n_a1a4 : a1 ≠ a4) (n_a2a3 : a2 ≠ a3) (n_a2a4 : a2 ≠ a4) (n_a3a4 : a3 ≠ a4) :
    MetFree l (⟨"com/example/prizepath/prizepath/Insertions", "moveLastTo", "(I)V"⟩ : MethodName) (head1 (Jvm.Cond.code (⟨"com/example/prizepath/prizepath/Insertions", "moveLastTo", "(I)V"⟩ : MethodName) prog_15_method_12_code 2 none :: ws) ({ frames := 0, cells := 0, slots := 0, locals := 0 } : Room)) (fun aa U => aa = #[(.ref o), (.int (0 : Int32))] ∧ Z.Warmed39 U.vm ∧ U.heap = h0) (fun _ _ _ _ _ => True) (fun _ U ou U' => ∃ v L, ou = .returned v ∧ Q_rm_mv30 Z o a1 a2 a3 a4 k1 k2 k3 k4 c0 c1 c2 r0 r1 r2 p0 p1 p2 d0 d1 d2 h0 n0 v U'.heap L ∧ FrameEnd U ou U' L ({ frames := 0, cells := 0, slots := 0, locals := 0 } : Room).cells ({ frames := 0, cells := 0, slots := 0, locals := 0 } : Room).slots) := by
  refine MetFree.of_bodySF (plainFor_of_name own_pn2) hisR ?_
  intro p e s m args below meth c s₁ Bd hml0 hP hK
  obtain ⟨rfl, hZ, hh⟩ := hP
  have hx := Bd.exec
  have hby := Bd.bytes
  have hml : c.maxLocals = 2 := hml0
  have hown : s.vm.findClass "com/example/prizepath/prizepath/Insertions" = some m.cls := findClass_of_methodNamed Bd.named
  have hnm := (name_of_methodNamed Bd.named Bd.method).1
  have X0 : Stand p l e ({ frames := 0, cells := 0, slots := 0, locals := 0 } : Room) s m #[(.ref o), (.int (0 : Int32))] below meth c s₁ [] 0 0 := Stand.of_body Bd
  have e0 : s₁.heap = h0 := by rw [← hh, Bd.state]; rfl
  have N0 := Fr.nil n0
  have K0 := Keep.refl h0 [o, a1, a2, a3, a4]
  show own_Go p e below (fun o u L => FrameEnd s o u L ({ frames := 0, cells := 0, slots := 0, locals := 0 } : Room).cells ({ frames := 0, cells := 0, slots := 0, locals := 0 } : Room).slots) (Q_rm_mv30 Z o a1 a2 a3 a4 k1 k2 k3 k4 c0 c1 c2 r0 r1 r2 p0 p1 p2 d0 d1 d2 h0 n0) (s₁.setTop (entryFrame m #[(.ref o), (.int (0 : Int32))] 2))
  rw [own_ef_rm_mv30 m o]
  show own_Go _ _ _ _ _ (State.setTop _ (mkF _ 0 #[.val (.ref o), .val (.int (0 : Int32))] []))
  refine own_aloadN X0 hx 1 rfl (hb hby own_d11_0) rfl rfl ?_
  refine own_dup X0 hx 2 rfl (hb hby own_d11_1) rfl ?_
  refine own_getF X0 hx hZ (host := "") hown (Or.inl (own_hw hw 26 rfl)) Via.refl e0 FZ 5 rfl (hb hby own_d11_2) fun T578 X578 e578 => ?_
  refine own_iconst X578 hx 6 rfl (hb hby own_d11_5) (1 : Int32) rfl ?_
  refine own_isub X578 hx 7 rfl (hb hby own_d11_6) (2 : Int32) rfl ?_
  refine own_putF X578 hx hZ (host := "") hown (Or.inl (own_hw hw 26 rfl)) Via.refl e578 FZ E0 (Or.inl (own_hw hw 27 rfl)) (own_hw hw 1 rfl) (ty := .int) (by decide) rfl rfl 10 rfl (hb hby own_d11_7) fun T579 h579 X579 e579 W579 => ?_
  have f580 := E0.wr W579
  have f581 := F1.other W579 (Or.inr (slot_ne (Or.inl (own_hw hw 11 rfl)) (Or.inl (own_hw hw 27 rfl)) (by decide) (t := (.array .int)) (t' := .int) (by decide) (by decide)))
  have f582 := F2.other W579 (Or.inr (slot_ne (Or.inl (own_hw hw 13 rfl)) (Or.inl (own_hw hw 27 rfl)) (by decide) (t := (.array .int)) (t' := .int) (by decide) (by decide)))
  have f583 := F3.other W579 (Or.inr (slot_ne (Or.inl (own_hw hw 15 rfl)) (Or.inl (own_hw hw 27 rfl)) (by decide) (t := (.array .int)) (t' := .int) (by decide) (by decide)))
  have f584 := F4.other W579 (Or.inr (slot_ne (Or.inl (own_hw hw 18 rfl)) (Or.inl (own_hw hw 27 rfl)) (by decide) (t := (.array .double)) (t' := .int) (by decide) (by decide)))
  have f585 := A1.other W579 (Ne.symm n_oa1)
  have f586 := A2.other W579 (Ne.symm n_oa2)
  have f587 := A3.other W579 (Ne.symm n_oa3)
  have f588 := A4.other W579 (Ne.symm n_oa4)
  have z589 := Nat.le_trans Z0 (Keep.of_wr W579).1
  have K590 := K0.wr W579 (Or.inl (List.mem_of_getElem? (i := 0) rfl))
  have f591 := FZ.same W579
  have N592 := Fr.snoc X579 N0 g_o
  refine own_aloadN X579 hx 11 rfl (hb hby own_d11_10) rfl rfl ?_
  refine own_getF X579 hx hZ (host := "") hown (Or.inl (own_hw hw 10 rfl)) Via.refl e579 f581 14 rfl (hb hby own_d11_11) fun T593 X593 e593 => ?_
  refine own_iloadN X593 hx 15 rfl (hb hby own_d11_14) rfl ?_
  refine own_aloadN X593 hx 16 rfl (hb hby own_d11_15) rfl rfl ?_
  refine own_getF X593 hx hZ (host := "") hown (Or.inl (own_hw hw 10 rfl)) Via.refl e593 f581 19 rfl (hb hby own_d11_16) fun T594 X594 e594 => ?_
  refine own_aloadN X594 hx 20 rfl (hb hby own_d11_19) rfl rfl ?_
  refine own_getF X594 hx hZ (host := "") hown (Or.inl (own_hw hw 26 rfl)) Via.refl e594 f591 23 rfl (hb hby own_d11_20) fun T595 X595 e595 => ?_
  refine own_ldI X595 hx hZ e595 f585 ⟨by decide, by decide⟩ c2 rfl 24 rfl (hb hby own_d11_23) ?_
  refine own_stI X595 hx hZ e595 f585 ⟨by decide, by decide⟩ 0 rfl (Nat.le_of_ble_eq_true rfl) [(.int c2), (.int c1), (.int c2)] rfl 25 rfl (hb hby own_d11_24) fun T596 h596 X596 e596 W596 f597 => ?_
  have f598 := f580.wr W596
  have f599 := f581.other W596 (Or.inl n_oa1)
  have f600 := f582.other W596 (Or.inl n_oa1)
  have f601 := f583.other W596 (Or.inl n_oa1)
  have f602 := f584.other W596 (Or.inl n_oa1)
  have f603 := f586.other W596 (Ne.symm n_a1a2)
  have f604 := f587.other W596 (Ne.symm n_a1a3)
  have f605 := f588.other W596 (Ne.symm n_a1a4)
  have f606 := f591.other W596 (Or.inl n_oa1)
  have z607 := Nat.le_trans z589 (Keep.of_wr W596).1
  have K608 := K590.wr W596 (Or.inl (List.mem_of_getElem? (i := 1) rfl))
  have N609 := Fr.snoc X596 N592 g_a1
  refine own_aloadN X596 hx 26 rfl (hb hby own_d11_25) rfl rfl ?_
  refine own_getF X596 hx hZ (host := "") hown (Or.inl (own_hw hw 12 rfl)) Via.refl e596 f600 29 rfl (hb hby own_d11_26) fun T610 X610 e610 => ?_
  refine own_iloadN X610 hx 30 rfl (hb hby own_d11_29) rfl ?_
  refine own_aloadN X610 hx 31 rfl (hb hby own_d11_30) rfl rfl ?_
  refine own_getF X610 hx hZ (host := "") hown (Or.inl (own_hw hw 12 rfl)) Via.refl e610 f600 34 rfl (hb hby own_d11_31) fun T611 X611 e611 => ?_
  refine own_aloadN X611 hx 35 rfl (hb hby own_d11_34) rfl rfl ?_
  refine own_getF X611 hx hZ (host := "") hown (Or.inl (own_hw hw 26 rfl)) Via.refl e611 f606 38 rfl (hb hby own_d11_35) fun T612 X612 e612 => ?_
  refine own_ldI X612 hx hZ e612 f603 ⟨by decide, by decide⟩ r2 rfl 39 rfl (hb hby own_d11_38) ?_
  refine own_stI X612 hx hZ e612 f603 ⟨by decide, by decide⟩ 0 rfl (Nat.le_of_ble_eq_true rfl) [(.int r2), (.int r1), (.int r2)] rfl 40 rfl (hb hby own_d11_39) fun T613 h613 X613 e613 W613 f614 => ?_
  have f615 := f598.wr W613
  have f616 := f599.other W613 (Or.inl n_oa2)
  have f617 := f600.other W613 (Or.inl n_oa2)
  have f618 := f601.other W613 (Or.inl n_oa2)
  have f619 := f602.other W613 (Or.inl n_oa2)
  have f620 := f604.other W613 (Ne.symm n_a2a3)
  have f621 := f605.other W613 (Ne.symm n_a2a4)
  have f622 := f606.other W613 (Or.inl n_oa2)
  have f623 := f597.other W613 n_a1a2
  have z624 := Nat.le_trans z607 (Keep.of_wr W613).1
  have K625 := K608.wr W613 (Or.inl (List.mem_of_getElem? (i := 2) rfl))
  have N626 := Fr.snoc X613 N609 g_a2
  refine own_aloadN X613 hx 41 rfl (hb hby own_d11_40) rfl rfl ?_
  refine own_getF X613 hx hZ (host := "") hown (Or.inl (own_hw hw 14 rfl)) Via.refl e613 f618 44 rfl (hb hby own_d11_41) fun T627 X627 e627 => ?_
  refine own_iloadN X627 hx 45 rfl (hb hby own_d11_44) rfl ?_
  refine own_aloadN X627 hx 46 rfl (hb hby own_d11_45) rfl rfl ?_
  refine own_getF X627 hx hZ (host := "") hown (Or.inl (own_hw hw 14 rfl)) Via.refl e627 f618 49 rfl (hb hby own_d11_46) fun T628 X628 e628 => ?_
  refine own_aloadN X628 hx 50 rfl (hb hby own_d11_49) rfl rfl ?_
  refine own_getF X628 hx hZ (host := "") hown (Or.inl (own_hw hw 26 rfl)) Via.refl e628 f622 53 rfl (hb hby own_d11_50) fun T629 X629 e629 => ?_
  refine own_ldI X629 hx hZ e629 f620 ⟨by decide, by decide⟩ p2 rfl 54 rfl (hb hby own_d11_53) ?_
  refine own_stI X629 hx hZ e629 f620 ⟨by decide, by decide⟩ 0 rfl (Nat.le_of_ble_eq_true rfl) [(.int p2), (.int p1), (.int p2)] rfl 55 rfl (hb hby own_d11_54) fun T630 h630 X630 e630 W630 f631 => ?_
  have f632 := f615.wr W630
  have f633 := f616.other W630 (Or.inl n_oa3)
  have f634 := f617.other W630 (Or.inl n_oa3)
  have f635 := f618.other W630 (Or.inl n_oa3)
  have f636 := f619.other W630 (Or.inl n_oa3)
  have f637 := f621.other W630 (Ne.symm n_a3a4)
  have f638 := f622.other W630 (Or.inl n_oa3)
  have f639 := f623.other W630 n_a1a3
  have f640 := f614.other W630 n_a2a3
  have z641 := Nat.le_trans z624 (Keep.of_wr W630).1
  have K642 := K625.wr W630 (Or.inl (List.mem_of_getElem? (i := 3) rfl))
  have N643 := Fr.snoc X630 N626 g_a3
  refine own_aloadN X630 hx 56 rfl (hb hby own_d11_55) rfl rfl ?_
  refine own_getF X630 hx hZ (host := "") hown (Or.inl (own_hw hw 17 rfl)) Via.refl e630 f636 59 rfl (hb hby own_d11_56) fun T644 X644 e644 => ?_
  refine own_iloadN X644 hx 60 rfl (hb hby own_d11_59) rfl ?_
  refine own_aloadN X644 hx 61 rfl (hb hby own_d11_60) rfl rfl ?_
  refine own_getF X644 hx hZ (host := "") hown (Or.inl (own_hw hw 17 rfl)) Via.refl e644 f636 64 rfl (hb hby own_d11_61) fun T645 X645 e645 => ?_
  refine own_aloadN X645 hx 65 rfl (hb hby own_d11_64) rfl rfl ?_
  refine own_getF X645 hx hZ (host := "") hown (Or.inl (own_hw hw 26 rfl)) Via.refl e645 f638 68 rfl (hb hby own_d11_65) fun T646 X646 e646 => ?_
  refine own_ldD X646 hx hZ e646 f637 ⟨by decide, by decide⟩ d2 rfl 69 rfl (hb hby own_d11_68) ?_
  refine own_stD X646 hx hZ e646 f637 ⟨by decide, by decide⟩ 0 rfl (Nat.le_of_ble_eq_true rfl) [(.double d2), (.double d1), (.double d2)] rfl 70 rfl (hb hby own_d11_69) fun T647 h647 X647 e647 W647 f648 => ?_
  have f649 := f632.wr W647
  have f650 := f633.other W647 (Or.inl n_oa4)
  have f651 := f634.other W647 (Or.inl n_oa4)
  have f652 := f635.other W647 (Or.inl n_oa4)
  have f653 := f636.other W647 (Or.inl n_oa4)
  have f654 := f638.other W647 (Or.inl n_oa4)
  have f655 := f639.other W647 n_a1a4
  have f656 := f640.other W647 n_a2a4
  have f657 := f631.other W647 n_a3a4
  have z658 := Nat.le_trans z641 (Keep.of_wr W647).1
  have K659 := K642.wr W647 (Or.inl (List.mem_of_getElem? (i := 4) rfl))
  have N660 := Fr.snoc X647 N643 g_a4
  refine own_ret X647 none (fun _ => rfl) Bd.notSynchronized (by decide) (by decide) ?_ (fun fs hr => X647.returnOut hx Bd.returns (hb hby own_d11_70) hr)
  show Q_rm_mv30 Z o a1 a2 a3 a4 k1 k2 k3 k4 c0 c1 c2 r0 r1 r2 p0 p1 p2 d0 d1 d2 h0 n0 _ T647.heap _
  rw [e647]
  exact ⟨rfl, N660, K659, f654⟩
theorem own_ef_rm_mv31 (m : MethodId) (o : Addr) : entryFrame m #[(.ref o), (.int (1 : Int32))] 2 = mkF m 0 #[.val (.ref o), .val (.int (1 : Int32))] [] := by first | (simp [entryFrame, mkF, argsToLocals, Value.category]; done) | rfl
def Q_rm_mv31 (Z : State) (o : Addr) (a1 : Addr) (a2 : Addr) (a3 : Addr) (a4 : Addr) (k1 : ClassId) (k2 : ClassId) (k3 : ClassId) (k4 : ClassId) (c0 : Int32) (c1 : Int32) (c2 : Int32) (r0 : Int32) (r1 : Int32) (r2 : Int32) (p0 : Int32) (p1 : Int32) (p2 : Int32) (d0 : UInt64) (d1 : UInt64) (d2 : UInt64) (h0 : Heap) (n0 : Nat) (v : Option Value) (h : Heap) (L : List Loc) : Prop := v = none ∧ Fr n0 L ∧ Keep h0 h [o, a1, a2, a3, a4] ∧ Fld Z h o "com/example/prizepath/prizepath/Insertions" "size" "I" (.int (2 : Int32))
set_option maxRecDepth 65536 in
set_option maxHeartbeats 40000000 in
theorem rm_mv31 (l : Launch) (Z : State) (a0 : Array Value) (hw : ∀ d ∈ tables_1, d.before a0 Z = true) (ws : List Jvm.Cond) (o : Addr) (a1 : Addr) (a2 : Addr) (a3 : Addr) (a4 : Addr) (k1 : ClassId) (k2 : ClassId) (k3 : ClassId) (k4 : ClassId) (c0 : Int32) (c1 : Int32) (c2 : Int32) (r0 : Int32) (r1 : Int32) (r2 : Int32) (p0 : Int32) (p1 : Int32) (p2 : Int32) (d0 : UInt64) (d1 : UInt64) (d2 : UInt64) (h0 : Heap) (n0 : Nat) (Z0 : n0 ≤ h0.size) (E0 : Exa Z h0 o "com/example/prizepath/prizepath/Insertions") (F1 : Fld Z h0 o "com/example/prizepath/prizepath/Insertions" "customers" "[I" (.ref a1)) (F2 : Fld Z h0 o "com/example/prizepath/prizepath/Insertions" "routes" "[I" (.ref a2)) (F3 : Fld Z h0 o "com/example/prizepath/prizepath/Insertions" "places" "[I" (.ref a3)) (F4 : Fld Z h0 o "com/example/prizepath/prizepath/Insertions" "ranks" "[D" (.ref a4)) (A1 : Arv Z h0 a1 k1 .int (256 : Int32) [(.int c0), (.int c1), (.int c2)] (.int (0 : Int32))) (A2 : Arv Z h0 a2 k2 .int (256 : Int32) [(.int r0), (.int r1), (.int r2)] (.int (0 : Int32))) (A3 : Arv Z h0 a3 k3 .int (256 : Int32) [(.int p0), (.int p1), (.int p2)] (.int (0 : Int32))) (A4 : Arv Z h0 a4 k4 .double (256 : Int32) [(.double d0), (.double d1), (.double d2)] (.double (0 : UInt64))) (FZ : Fld Z h0 o "com/example/prizepath/prizepath/Insertions" "size" "I" (.int (3 : Int32))) (g_o : n0 ≤ o) (g_a1 : n0 ≤ a1) (g_a2 : n0 ≤ a2) (g_a3 : n0 ≤ a3) (g_a4 : n0 ≤ a4) (n_oa1 : o ≠ a1) (n_oa2 : o ≠ a2) (n_oa3 : o ≠ a3) (n_oa4 : o ≠ a4) (n_a1a2 : a1 ≠ a2) (n_a1a3 : a1 ≠ a3) (n_a1a4 : a1 ≠ a4) (n_a2a3 : a2 ≠ a3) (n_a2a4 : a2 ≠ a4) (n_a3a4 : a3 ≠ a4) :
    MetFree l (⟨"com/example/prizepath/prizepath/Insertions", "moveLastTo", "(I)V"⟩ : MethodName) (head1 (Jvm.Cond.code (⟨"com/example/prizepath/prizepath/Insertions", "moveLastTo", "(I)V"⟩ : MethodName) prog_15_method_12_code 2 none :: ws) ({ frames := 0, cells := 0, slots := 0, locals := 0 } : Room)) (fun aa U => aa = #[(.ref o), (.int (1 : Int32))] ∧ Z.Warmed39 U.vm ∧ U.heap = h0) (fun _ _ _ _ _ => True) (fun _ U ou U' => ∃ v L, ou = .returned v ∧ Q_rm_mv31 Z o a1 a2 a3 a4 k1 k2 k3 k4 c0 c1 c2 r0 r1 r2 p0 p1 p2 d0 d1 d2 h0 n0 v U'.heap L ∧ FrameEnd U ou U' L ({ frames := 0, cells := 0, slots := 0, locals := 0 } : Room).cells ({ frames := 0, cells := 0, slots := 0, locals := 0 } : Room).slots) := by
  refine MetFree.of_bodySF (plainFor_of_name own_pn2) hisR ?_
  intro p e s m args below meth c s₁ Bd hml0 hP hK
  obtain ⟨rfl, hZ, hh⟩ := hP
  have hx := Bd.exec
  have hby := Bd.bytes
  have hml : c.maxLocals = 2 := hml0
  have hown : s.vm.findClass "com/example/prizepath/prizepath/Insertions" = some m.cls := findClass_of_methodNamed Bd.named
  have hnm := (name_of_methodNamed Bd.named Bd.method).1
  have X0 : Stand p l e ({ frames := 0, cells := 0, slots := 0, locals := 0 } : Room) s m #[(.ref o), (.int (1 : Int32))] below meth c s₁ [] 0 0 := Stand.of_body Bd
  have e0 : s₁.heap = h0 := by rw [← hh, Bd.state]; rfl
  have N0 := Fr.nil n0
  have K0 := Keep.refl h0 [o, a1, a2, a3, a4]
  show own_Go p e below (fun o u L => FrameEnd s o u L ({ frames := 0, cells := 0, slots := 0, locals := 0 } : Room).cells ({ frames := 0, cells := 0, slots := 0, locals := 0 } : Room).slots) (Q_rm_mv31 Z o a1 a2 a3 a4 k1 k2 k3 k4 c0 c1 c2 r0 r1 r2 p0 p1 p2 d0 d1 d2 h0 n0) (s₁.setTop (entryFrame m #[(.ref o), (.int (1 : Int32))] 2))
  rw [own_ef_rm_mv31 m o]
  show own_Go _ _ _ _ _ (State.setTop _ (mkF _ 0 #[.val (.ref o), .val (.int (1 : Int32))] []))
  refine own_aloadN X0 hx 1 rfl (hb hby own_d11_0) rfl rfl ?_
  refine own_dup X0 hx 2 rfl (hb hby own_d11_1) rfl ?_
  refine own_getF X0 hx hZ (host := "") hown (Or.inl (own_hw hw 26 rfl)) Via.refl e0 FZ 5 rfl (hb hby own_d11_2) fun T661 X661 e661 => ?_
  refine own_iconst X661 hx 6 rfl (hb hby own_d11_5) (1 : Int32) rfl ?_
  refine own_isub X661 hx 7 rfl (hb hby own_d11_6) (2 : Int32) rfl ?_
  refine own_putF X661 hx hZ (host := "") hown (Or.inl (own_hw hw 26 rfl)) Via.refl e661 FZ E0 (Or.inl (own_hw hw 27 rfl)) (own_hw hw 1 rfl) (ty := .int) (by decide) rfl rfl 10 rfl (hb hby own_d11_7) fun T662 h662 X662 e662 W662 => ?_
  have f663 := E0.wr W662
  have f664 := F1.other W662 (Or.inr (slot_ne (Or.inl (own_hw hw 11 rfl)) (Or.inl (own_hw hw 27 rfl)) (by decide) (t := (.array .int)) (t' := .int) (by decide) (by decide)))
  have f665 := F2.other W662 (Or.inr (slot_ne (Or.inl (own_hw hw 13 rfl)) (Or.inl (own_hw hw 27 rfl)) (by decide) (t := (.array .int)) (t' := .int) (by decide) (by decide)))
  have f666 := F3.other W662 (Or.inr (slot_ne (Or.inl (own_hw hw 15 rfl)) (Or.inl (own_hw hw 27 rfl)) (by decide) (t := (.array .int)) (t' := .int) (by decide) (by decide)))
  have f667 := F4.other W662 (Or.inr (slot_ne (Or.inl (own_hw hw 18 rfl)) (Or.inl (own_hw hw 27 rfl)) (by decide) (t := (.array .double)) (t' := .int) (by decide) (by decide)))
  have f668 := A1.other W662 (Ne.symm n_oa1)
  have f669 := A2.other W662 (Ne.symm n_oa2)
  have f670 := A3.other W662 (Ne.symm n_oa3)
  have f671 := A4.other W662 (Ne.symm n_oa4)
  have z672 := Nat.le_trans Z0 (Keep.of_wr W662).1
  have K673 := K0.wr W662 (Or.inl (List.mem_of_getElem? (i := 0) rfl))
  have f674 := FZ.same W662
  have N675 := Fr.snoc X662 N0 g_o
  refine own_aloadN X662 hx 11 rfl (hb hby own_d11_10) rfl rfl ?_
  refine own_getF X662 hx hZ (host := "") hown (Or.inl (own_hw hw 10 rfl)) Via.refl e662 f664 14 rfl (hb hby own_d11_11) fun T676 X676 e676 => ?_
  refine own_iloadN X676 hx 15 rfl (hb hby own_d11_14) rfl ?_
  refine own_aloadN X676 hx 16 rfl (hb hby own_d11_15) rfl rfl ?_
  refine own_getF X676 hx hZ (host := "") hown (Or.inl (own_hw hw 10 rfl)) Via.refl e676 f664 19 rfl (hb hby own_d11_16) fun T677 X677 e677 => ?_
  refine own_aloadN X677 hx 20 rfl (hb hby own_d11_19) rfl rfl ?_
  refine own_getF X677 hx hZ (host := "") hown (Or.inl (own_hw hw 26 rfl)) Via.refl e677 f674 23 rfl (hb hby own_d11_20) fun T678 X678 e678 => ?_
  refine own_ldI X678 hx hZ e678 f668 ⟨by decide, by decide⟩ c2 rfl 24 rfl (hb hby own_d11_23) ?_
  refine own_stI X678 hx hZ e678 f668 ⟨by decide, by decide⟩ 1 rfl (Nat.le_of_ble_eq_true rfl) [(.int c0), (.int c2), (.int c2)] rfl 25 rfl (hb hby own_d11_24) fun T679 h679 X679 e679 W679 f680 => ?_
  have f681 := f663.wr W679
  have f682 := f664.other W679 (Or.inl n_oa1)
  have f683 := f665.other W679 (Or.inl n_oa1)
  have f684 := f666.other W679 (Or.inl n_oa1)
  have f685 := f667.other W679 (Or.inl n_oa1)
  have f686 := f669.other W679 (Ne.symm n_a1a2)
  have f687 := f670.other W679 (Ne.symm n_a1a3)
  have f688 := f671.other W679 (Ne.symm n_a1a4)
  have f689 := f674.other W679 (Or.inl n_oa1)
  have z690 := Nat.le_trans z672 (Keep.of_wr W679).1
  have K691 := K673.wr W679 (Or.inl (List.mem_of_getElem? (i := 1) rfl))
  have N692 := Fr.snoc X679 N675 g_a1
  refine own_aloadN X679 hx 26 rfl (hb hby own_d11_25) rfl rfl ?_
  refine own_getF X679 hx hZ (host := "") hown (Or.inl (own_hw hw 12 rfl)) Via.refl e679 f683 29 rfl (hb hby own_d11_26) fun T693 X693 e693 => ?_
  refine own_iloadN X693 hx 30 rfl (hb hby own_d11_29) rfl ?_
  refine own_aloadN X693 hx 31 rfl (hb hby own_d11_30) rfl rfl ?_
  refine own_getF X693 hx hZ (host := "") hown (Or.inl (own_hw hw 12 rfl)) Via.refl e693 f683 34 rfl (hb hby own_d11_31) fun T694 X694 e694 => ?_
  refine own_aloadN X694 hx 35 rfl (hb hby own_d11_34) rfl rfl ?_
  refine own_getF X694 hx hZ (host := "") hown (Or.inl (own_hw hw 26 rfl)) Via.refl e694 f689 38 rfl (hb hby own_d11_35) fun T695 X695 e695 => ?_
  refine own_ldI X695 hx hZ e695 f686 ⟨by decide, by decide⟩ r2 rfl 39 rfl (hb hby own_d11_38) ?_
  refine own_stI X695 hx hZ e695 f686 ⟨by decide, by decide⟩ 1 rfl (Nat.le_of_ble_eq_true rfl) [(.int r0), (.int r2), (.int r2)] rfl 40 rfl (hb hby own_d11_39) fun T696 h696 X696 e696 W696 f697 => ?_
  have f698 := f681.wr W696
  have f699 := f682.other W696 (Or.inl n_oa2)
  have f700 := f683.other W696 (Or.inl n_oa2)
  have f701 := f684.other W696 (Or.inl n_oa2)
  have f702 := f685.other W696 (Or.inl n_oa2)
  have f703 := f687.other W696 (Ne.symm n_a2a3)
  have f704 := f688.other W696 (Ne.symm n_a2a4)
  have f705 := f689.other W696 (Or.inl n_oa2)
  have f706 := f680.other W696 n_a1a2
  have z707 := Nat.le_trans z690 (Keep.of_wr W696).1
  have K708 := K691.wr W696 (Or.inl (List.mem_of_getElem? (i := 2) rfl))
  have N709 := Fr.snoc X696 N692 g_a2
  refine own_aloadN X696 hx 41 rfl (hb hby own_d11_40) rfl rfl ?_
  refine own_getF X696 hx hZ (host := "") hown (Or.inl (own_hw hw 14 rfl)) Via.refl e696 f701 44 rfl (hb hby own_d11_41) fun T710 X710 e710 => ?_
  refine own_iloadN X710 hx 45 rfl (hb hby own_d11_44) rfl ?_
  refine own_aloadN X710 hx 46 rfl (hb hby own_d11_45) rfl rfl ?_
  refine own_getF X710 hx hZ (host := "") hown (Or.inl (own_hw hw 14 rfl)) Via.refl e710 f701 49 rfl (hb hby own_d11_46) fun T711 X711 e711 => ?_
  refine own_aloadN X711 hx 50 rfl (hb hby own_d11_49) rfl rfl ?_
  refine own_getF X711 hx hZ (host := "") hown (Or.inl (own_hw hw 26 rfl)) Via.refl e711 f705 53 rfl (hb hby own_d11_50) fun T712 X712 e712 => ?_
  refine own_ldI X712 hx hZ e712 f703 ⟨by decide, by decide⟩ p2 rfl 54 rfl (hb hby own_d11_53) ?_
  refine own_stI X712 hx hZ e712 f703 ⟨by decide, by decide⟩ 1 rfl (Nat.le_of_ble_eq_true rfl) [(.int p0), (.int p2), (.int p2)] rfl 55 rfl (hb hby own_d11_54) fun T713 h713 X713 e713 W713 f714 => ?_
  have f715 := f698.wr W713
  have f716 := f699.other W713 (Or.inl n_oa3)
  have f717 := f700.other W713 (Or.inl n_oa3)
  have f718 := f701.other W713 (Or.inl n_oa3)
  have f719 := f702.other W713 (Or.inl n_oa3)
  have f720 := f704.other W713 (Ne.symm n_a3a4)
  have f721 := f705.other W713 (Or.inl n_oa3)
  have f722 := f706.other W713 n_a1a3
  have f723 := f697.other W713 n_a2a3
  have z724 := Nat.le_trans z707 (Keep.of_wr W713).1
  have K725 := K708.wr W713 (Or.inl (List.mem_of_getElem? (i := 3) rfl))
  have N726 := Fr.snoc X713 N709 g_a3
  refine own_aloadN X713 hx 56 rfl (hb hby own_d11_55) rfl rfl ?_
  refine own_getF X713 hx hZ (host := "") hown (Or.inl (own_hw hw 17 rfl)) Via.refl e713 f719 59 rfl (hb hby own_d11_56) fun T727 X727 e727 => ?_
  refine own_iloadN X727 hx 60 rfl (hb hby own_d11_59) rfl ?_
  refine own_aloadN X727 hx 61 rfl (hb hby own_d11_60) rfl rfl ?_
  refine own_getF X727 hx hZ (host := "") hown (Or.inl (own_hw hw 17 rfl)) Via.refl e727 f719 64 rfl (hb hby own_d11_61) fun T728 X728 e728 => ?_
  refine own_aloadN X728 hx 65 rfl (hb hby own_d11_64) rfl rfl ?_
  refine own_getF X728 hx hZ (host := "") hown (Or.inl (own_hw hw 26 rfl)) Via.refl e728 f721 68 rfl (hb hby own_d11_65) fun T729 X729 e729 => ?_
  refine own_ldD X729 hx hZ e729 f720 ⟨by decide, by decide⟩ d2 rfl 69 rfl (hb hby own_d11_68) ?_
  refine own_stD X729 hx hZ e729 f720 ⟨by decide, by decide⟩ 1 rfl (Nat.le_of_ble_eq_true rfl) [(.double d0), (.double d2), (.double d2)] rfl 70 rfl (hb hby own_d11_69) fun T730 h730 X730 e730 W730 f731 => ?_
  have f732 := f715.wr W730
  have f733 := f716.other W730 (Or.inl n_oa4)
  have f734 := f717.other W730 (Or.inl n_oa4)
  have f735 := f718.other W730 (Or.inl n_oa4)
  have f736 := f719.other W730 (Or.inl n_oa4)
  have f737 := f721.other W730 (Or.inl n_oa4)
  have f738 := f722.other W730 n_a1a4
  have f739 := f723.other W730 n_a2a4
  have f740 := f714.other W730 n_a3a4
  have z741 := Nat.le_trans z724 (Keep.of_wr W730).1
  have K742 := K725.wr W730 (Or.inl (List.mem_of_getElem? (i := 4) rfl))
  have N743 := Fr.snoc X730 N726 g_a4
  refine own_ret X730 none (fun _ => rfl) Bd.notSynchronized (by decide) (by decide) ?_ (fun fs hr => X730.returnOut hx Bd.returns (hb hby own_d11_70) hr)
  show Q_rm_mv31 Z o a1 a2 a3 a4 k1 k2 k3 k4 c0 c1 c2 r0 r1 r2 p0 p1 p2 d0 d1 d2 h0 n0 _ T730.heap _
  rw [e730]
  exact ⟨rfl, N743, K742, f737⟩
theorem own_ef_rm_mv32 (m : MethodId) (o : Addr) : entryFrame m #[(.ref o), (.int (2 : Int32))] 2 = mkF m 0 #[.val (.ref o), .val (.int (2 : Int32))] [] := by first | (simp [entryFrame, mkF, argsToLocals, Value.category]; done) | rfl
def Q_rm_mv32 (Z : State) (o : Addr) (a1 : Addr) (a2 : Addr) (a3 : Addr) (a4 : Addr) (k1 : ClassId) (k2 : ClassId) (k3 : ClassId) (k4 : ClassId) (c0 : Int32) (c1 : Int32) (c2 : Int32) (r0 : Int32) (r1 : Int32) (r2 : Int32) (p0 : Int32) (p1 : Int32) (p2 : Int32) (d0 : UInt64) (d1 : UInt64) (d2 : UInt64) (h0 : Heap) (n0 : Nat) (v : Option Value) (h : Heap) (L : List Loc) : Prop := v = none ∧ Fr n0 L ∧ Keep h0 h [o, a1, a2, a3, a4] ∧ Fld Z h o "com/example/prizepath/prizepath/Insertions" "size" "I" (.int (2 : Int32))
set_option maxRecDepth 65536 in
set_option maxHeartbeats 40000000 in
theorem rm_mv32 (l : Launch) (Z : State) (a0 : Array Value) (hw : ∀ d ∈ tables_1, d.before a0 Z = true) (ws : List Jvm.Cond) (o : Addr) (a1 : Addr) (a2 : Addr) (a3 : Addr) (a4 : Addr) (k1 : ClassId) (k2 : ClassId) (k3 : ClassId) (k4 : ClassId) (c0 : Int32) (c1 : Int32) (c2 : Int32) (r0 : Int32) (r1 : Int32) (r2 : Int32) (p0 : Int32) (p1 : Int32) (p2 : Int32) (d0 : UInt64) (d1 : UInt64) (d2 : UInt64) (h0 : Heap) (n0 : Nat) (Z0 : n0 ≤ h0.size) (E0 : Exa Z h0 o "com/example/prizepath/prizepath/Insertions") (F1 : Fld Z h0 o "com/example/prizepath/prizepath/Insertions" "customers" "[I" (.ref a1)) (F2 : Fld Z h0 o "com/example/prizepath/prizepath/Insertions" "routes" "[I" (.ref a2)) (F3 : Fld Z h0 o "com/example/prizepath/prizepath/Insertions" "places" "[I" (.ref a3)) (F4 : Fld Z h0 o "com/example/prizepath/prizepath/Insertions" "ranks" "[D" (.ref a4)) (A1 : Arv Z h0 a1 k1 .int (256 : Int32) [(.int c0), (.int c1), (.int c2)] (.int (0 : Int32))) (A2 : Arv Z h0 a2 k2 .int (256 : Int32) [(.int r0), (.int r1), (.int r2)] (.int (0 : Int32))) (A3 : Arv Z h0 a3 k3 .int (256 : Int32) [(.int p0), (.int p1), (.int p2)] (.int (0 : Int32))) (A4 : Arv Z h0 a4 k4 .double (256 : Int32) [(.double d0), (.double d1), (.double d2)] (.double (0 : UInt64))) (FZ : Fld Z h0 o "com/example/prizepath/prizepath/Insertions" "size" "I" (.int (3 : Int32))) (g_o : n0 ≤ o) (g_a1 : n0 ≤ a1) (g_a2 : n0 ≤ a2) (g_a3 : n0 ≤ a3) (g_a4 : n0 ≤ a4) (n_oa1 : o ≠ a1) (n_oa2 : o ≠ a2) (n_oa3 : o ≠ a3) (n_oa4 : o ≠ a4) (n_a1a2 : a1 ≠ a2) (n_a1a3 : a1 ≠ a3) (n_a1a4 : a1 ≠ a4) (n_a2a3 : a2 ≠ a3) (n_a2a4 : a2 ≠ a4) (n_a3a4 : a3 ≠ a4) :
    MetFree l (⟨"com/example/prizepath/prizepath/Insertions", "moveLastTo", "(I)V"⟩ : MethodName) (head1 (Jvm.Cond.code (⟨"com/example/prizepath/prizepath/Insertions", "moveLastTo", "(I)V"⟩ : MethodName) prog_15_method_12_code 2 none :: ws) ({ frames := 0, cells := 0, slots := 0, locals := 0 } : Room)) (fun aa U => aa = #[(.ref o), (.int (2 : Int32))] ∧ Z.Warmed39 U.vm ∧ U.heap = h0) (fun _ _ _ _ _ => True) (fun _ U ou U' => ∃ v L, ou = .returned v ∧ Q_rm_mv32 Z o a1 a2 a3 a4 k1 k2 k3 k4 c0 c1 c2 r0 r1 r2 p0 p1 p2 d0 d1 d2 h0 n0 v U'.heap L ∧ FrameEnd U ou U' L ({ frames := 0, cells := 0, slots := 0, locals := 0 } : Room).cells ({ frames := 0, cells := 0, slots := 0, locals := 0 } : Room).slots) := by
  refine MetFree.of_bodySF (plainFor_of_name own_pn2) hisR ?_
  intro p e s m args below meth c s₁ Bd hml0 hP hK
  obtain ⟨rfl, hZ, hh⟩ := hP
  have hx := Bd.exec
  have hby := Bd.bytes
  have hml : c.maxLocals = 2 := hml0
  have hown : s.vm.findClass "com/example/prizepath/prizepath/Insertions" = some m.cls := findClass_of_methodNamed Bd.named
  have hnm := (name_of_methodNamed Bd.named Bd.method).1
  have X0 : Stand p l e ({ frames := 0, cells := 0, slots := 0, locals := 0 } : Room) s m #[(.ref o), (.int (2 : Int32))] below meth c s₁ [] 0 0 := Stand.of_body Bd
  have e0 : s₁.heap = h0 := by rw [← hh, Bd.state]; rfl
  have N0 := Fr.nil n0
  have K0 := Keep.refl h0 [o, a1, a2, a3, a4]
  show own_Go p e below (fun o u L => FrameEnd s o u L ({ frames := 0, cells := 0, slots := 0, locals := 0 } : Room).cells ({ frames := 0, cells := 0, slots := 0, locals := 0 } : Room).slots) (Q_rm_mv32 Z o a1 a2 a3 a4 k1 k2 k3 k4 c0 c1 c2 r0 r1 r2 p0 p1 p2 d0 d1 d2 h0 n0) (s₁.setTop (entryFrame m #[(.ref o), (.int (2 : Int32))] 2))
  rw [own_ef_rm_mv32 m o]
  show own_Go _ _ _ _ _ (State.setTop _ (mkF _ 0 #[.val (.ref o), .val (.int (2 : Int32))] []))
  refine own_aloadN X0 hx 1 rfl (hb hby own_d11_0) rfl rfl ?_
  refine own_dup X0 hx 2 rfl (hb hby own_d11_1) rfl ?_
  refine own_getF X0 hx hZ (host := "") hown (Or.inl (own_hw hw 26 rfl)) Via.refl e0 FZ 5 rfl (hb hby own_d11_2) fun T744 X744 e744 => ?_
  refine own_iconst X744 hx 6 rfl (hb hby own_d11_5) (1 : Int32) rfl ?_
  refine own_isub X744 hx 7 rfl (hb hby own_d11_6) (2 : Int32) rfl ?_
  refine own_putF X744 hx hZ (host := "") hown (Or.inl (own_hw hw 26 rfl)) Via.refl e744 FZ E0 (Or.inl (own_hw hw 27 rfl)) (own_hw hw 1 rfl) (ty := .int) (by decide) rfl rfl 10 rfl (hb hby own_d11_7) fun T745 h745 X745 e745 W745 => ?_
  have f746 := E0.wr W745
  have f747 := F1.other W745 (Or.inr (slot_ne (Or.inl (own_hw hw 11 rfl)) (Or.inl (own_hw hw 27 rfl)) (by decide) (t := (.array .int)) (t' := .int) (by decide) (by decide)))
  have f748 := F2.other W745 (Or.inr (slot_ne (Or.inl (own_hw hw 13 rfl)) (Or.inl (own_hw hw 27 rfl)) (by decide) (t := (.array .int)) (t' := .int) (by decide) (by decide)))
  have f749 := F3.other W745 (Or.inr (slot_ne (Or.inl (own_hw hw 15 rfl)) (Or.inl (own_hw hw 27 rfl)) (by decide) (t := (.array .int)) (t' := .int) (by decide) (by decide)))
  have f750 := F4.other W745 (Or.inr (slot_ne (Or.inl (own_hw hw 18 rfl)) (Or.inl (own_hw hw 27 rfl)) (by decide) (t := (.array .double)) (t' := .int) (by decide) (by decide)))
  have f751 := A1.other W745 (Ne.symm n_oa1)
  have f752 := A2.other W745 (Ne.symm n_oa2)
  have f753 := A3.other W745 (Ne.symm n_oa3)
  have f754 := A4.other W745 (Ne.symm n_oa4)
  have z755 := Nat.le_trans Z0 (Keep.of_wr W745).1
  have K756 := K0.wr W745 (Or.inl (List.mem_of_getElem? (i := 0) rfl))
  have f757 := FZ.same W745
  have N758 := Fr.snoc X745 N0 g_o
  refine own_aloadN X745 hx 11 rfl (hb hby own_d11_10) rfl rfl ?_
  refine own_getF X745 hx hZ (host := "") hown (Or.inl (own_hw hw 10 rfl)) Via.refl e745 f747 14 rfl (hb hby own_d11_11) fun T759 X759 e759 => ?_
  refine own_iloadN X759 hx 15 rfl (hb hby own_d11_14) rfl ?_
  refine own_aloadN X759 hx 16 rfl (hb hby own_d11_15) rfl rfl ?_
  refine own_getF X759 hx hZ (host := "") hown (Or.inl (own_hw hw 10 rfl)) Via.refl e759 f747 19 rfl (hb hby own_d11_16) fun T760 X760 e760 => ?_
  refine own_aloadN X760 hx 20 rfl (hb hby own_d11_19) rfl rfl ?_
  refine own_getF X760 hx hZ (host := "") hown (Or.inl (own_hw hw 26 rfl)) Via.refl e760 f757 23 rfl (hb hby own_d11_20) fun T761 X761 e761 => ?_
  refine own_ldI X761 hx hZ e761 f751 ⟨by decide, by decide⟩ c2 rfl 24 rfl (hb hby own_d11_23) ?_
  refine own_stI X761 hx hZ e761 f751 ⟨by decide, by decide⟩ 2 rfl (Nat.le_of_ble_eq_true rfl) [(.int c0), (.int c1), (.int c2)] rfl 25 rfl (hb hby own_d11_24) fun T762 h762 X762 e762 W762 f763 => ?_
  have f764 := f746.wr W762
  have f765 := f747.other W762 (Or.inl n_oa1)
  have f766 := f748.other W762 (Or.inl n_oa1)
  have f767 := f749.other W762 (Or.inl n_oa1)
  have f768 := f750.other W762 (Or.inl n_oa1)
  have f769 := f752.other W762 (Ne.symm n_a1a2)
  have f770 := f753.other W762 (Ne.symm n_a1a3)
  have f771 := f754.other W762 (Ne.symm n_a1a4)
  have f772 := f757.other W762 (Or.inl n_oa1)
  have z773 := Nat.le_trans z755 (Keep.of_wr W762).1
  have K774 := K756.wr W762 (Or.inl (List.mem_of_getElem? (i := 1) rfl))
  have N775 := Fr.snoc X762 N758 g_a1
  refine own_aloadN X762 hx 26 rfl (hb hby own_d11_25) rfl rfl ?_
  refine own_getF X762 hx hZ (host := "") hown (Or.inl (own_hw hw 12 rfl)) Via.refl e762 f766 29 rfl (hb hby own_d11_26) fun T776 X776 e776 => ?_
  refine own_iloadN X776 hx 30 rfl (hb hby own_d11_29) rfl ?_
  refine own_aloadN X776 hx 31 rfl (hb hby own_d11_30) rfl rfl ?_
  refine own_getF X776 hx hZ (host := "") hown (Or.inl (own_hw hw 12 rfl)) Via.refl e776 f766 34 rfl (hb hby own_d11_31) fun T777 X777 e777 => ?_
  refine own_aloadN X777 hx 35 rfl (hb hby own_d11_34) rfl rfl ?_
  refine own_getF X777 hx hZ (host := "") hown (Or.inl (own_hw hw 26 rfl)) Via.refl e777 f772 38 rfl (hb hby own_d11_35) fun T778 X778 e778 => ?_
  refine own_ldI X778 hx hZ e778 f769 ⟨by decide, by decide⟩ r2 rfl 39 rfl (hb hby own_d11_38) ?_
  refine own_stI X778 hx hZ e778 f769 ⟨by decide, by decide⟩ 2 rfl (Nat.le_of_ble_eq_true rfl) [(.int r0), (.int r1), (.int r2)] rfl 40 rfl (hb hby own_d11_39) fun T779 h779 X779 e779 W779 f780 => ?_
  have f781 := f764.wr W779
  have f782 := f765.other W779 (Or.inl n_oa2)
  have f783 := f766.other W779 (Or.inl n_oa2)
  have f784 := f767.other W779 (Or.inl n_oa2)
  have f785 := f768.other W779 (Or.inl n_oa2)
  have f786 := f770.other W779 (Ne.symm n_a2a3)
  have f787 := f771.other W779 (Ne.symm n_a2a4)
  have f788 := f772.other W779 (Or.inl n_oa2)
  have f789 := f763.other W779 n_a1a2
  have z790 := Nat.le_trans z773 (Keep.of_wr W779).1
  have K791 := K774.wr W779 (Or.inl (List.mem_of_getElem? (i := 2) rfl))
  have N792 := Fr.snoc X779 N775 g_a2
  refine own_aloadN X779 hx 41 rfl (hb hby own_d11_40) rfl rfl ?_
  refine own_getF X779 hx hZ (host := "") hown (Or.inl (own_hw hw 14 rfl)) Via.refl e779 f784 44 rfl (hb hby own_d11_41) fun T793 X793 e793 => ?_
  refine own_iloadN X793 hx 45 rfl (hb hby own_d11_44) rfl ?_
  refine own_aloadN X793 hx 46 rfl (hb hby own_d11_45) rfl rfl ?_
  refine own_getF X793 hx hZ (host := "") hown (Or.inl (own_hw hw 14 rfl)) Via.refl e793 f784 49 rfl (hb hby own_d11_46) fun T794 X794 e794 => ?_
  refine own_aloadN X794 hx 50 rfl (hb hby own_d11_49) rfl rfl ?_
  refine own_getF X794 hx hZ (host := "") hown (Or.inl (own_hw hw 26 rfl)) Via.refl e794 f788 53 rfl (hb hby own_d11_50) fun T795 X795 e795 => ?_
  refine own_ldI X795 hx hZ e795 f786 ⟨by decide, by decide⟩ p2 rfl 54 rfl (hb hby own_d11_53) ?_
  refine own_stI X795 hx hZ e795 f786 ⟨by decide, by decide⟩ 2 rfl (Nat.le_of_ble_eq_true rfl) [(.int p0), (.int p1), (.int p2)] rfl 55 rfl (hb hby own_d11_54) fun T796 h796 X796 e796 W796 f797 => ?_
  have f798 := f781.wr W796
  have f799 := f782.other W796 (Or.inl n_oa3)
  have f800 := f783.other W796 (Or.inl n_oa3)
  have f801 := f784.other W796 (Or.inl n_oa3)
  have f802 := f785.other W796 (Or.inl n_oa3)
  have f803 := f787.other W796 (Ne.symm n_a3a4)
  have f804 := f788.other W796 (Or.inl n_oa3)
  have f805 := f789.other W796 n_a1a3
  have f806 := f780.other W796 n_a2a3
  have z807 := Nat.le_trans z790 (Keep.of_wr W796).1
  have K808 := K791.wr W796 (Or.inl (List.mem_of_getElem? (i := 3) rfl))
  have N809 := Fr.snoc X796 N792 g_a3
  refine own_aloadN X796 hx 56 rfl (hb hby own_d11_55) rfl rfl ?_
  refine own_getF X796 hx hZ (host := "") hown (Or.inl (own_hw hw 17 rfl)) Via.refl e796 f802 59 rfl (hb hby own_d11_56) fun T810 X810 e810 => ?_
  refine own_iloadN X810 hx 60 rfl (hb hby own_d11_59) rfl ?_
  refine own_aloadN X810 hx 61 rfl (hb hby own_d11_60) rfl rfl ?_
  refine own_getF X810 hx hZ (host := "") hown (Or.inl (own_hw hw 17 rfl)) Via.refl e810 f802 64 rfl (hb hby own_d11_61) fun T811 X811 e811 => ?_
  refine own_aloadN X811 hx 65 rfl (hb hby own_d11_64) rfl rfl ?_
  refine own_getF X811 hx hZ (host := "") hown (Or.inl (own_hw hw 26 rfl)) Via.refl e811 f804 68 rfl (hb hby own_d11_65) fun T812 X812 e812 => ?_
  refine own_ldD X812 hx hZ e812 f803 ⟨by decide, by decide⟩ d2 rfl 69 rfl (hb hby own_d11_68) ?_
  refine own_stD X812 hx hZ e812 f803 ⟨by decide, by decide⟩ 2 rfl (Nat.le_of_ble_eq_true rfl) [(.double d0), (.double d1), (.double d2)] rfl 70 rfl (hb hby own_d11_69) fun T813 h813 X813 e813 W813 f814 => ?_
  have f815 := f798.wr W813
  have f816 := f799.other W813 (Or.inl n_oa4)
  have f817 := f800.other W813 (Or.inl n_oa4)
  have f818 := f801.other W813 (Or.inl n_oa4)
  have f819 := f802.other W813 (Or.inl n_oa4)
  have f820 := f804.other W813 (Or.inl n_oa4)
  have f821 := f805.other W813 n_a1a4
  have f822 := f806.other W813 n_a2a4
  have f823 := f797.other W813 n_a3a4
  have z824 := Nat.le_trans z807 (Keep.of_wr W813).1
  have K825 := K808.wr W813 (Or.inl (List.mem_of_getElem? (i := 4) rfl))
  have N826 := Fr.snoc X813 N809 g_a4
  refine own_ret X813 none (fun _ => rfl) Bd.notSynchronized (by decide) (by decide) ?_ (fun fs hr => X813.returnOut hx Bd.returns (hb hby own_d11_70) hr)
  show Q_rm_mv32 Z o a1 a2 a3 a4 k1 k2 k3 k4 c0 c1 c2 r0 r1 r2 p0 p1 p2 d0 d1 d2 h0 n0 _ T813.heap _
  rw [e813]
  exact ⟨rfl, N826, K825, f820⟩
theorem own_pn3 : plainName "java/lang/Record" = true := by first | (simp [plainName, overriddenIn]; done) | decide +kernel
theorem own_ef_rm_rec (m : MethodId) (o : Addr) : entryFrame m #[(.ref o)] 1 = mkF m 0 #[.val (.ref o)] [] := by first | (simp [entryFrame, mkF, argsToLocals, Value.category]; done) | rfl
def Q_rm_rec (Z : State) (o : Addr) (h0 : Heap) (n0 : Nat) (v : Option Value) (h : Heap) (L : List Loc) : Prop := v = none ∧ Fr n0 L ∧ h = h0
theorem own_d10_0 : decode jdk_30_method_1_code 0 = .ok (.aload_n 0, 1) := by decide +kernel
theorem own_d10_1 : decode jdk_30_method_1_code 1 = .ok (.invokespecial 1, 3) := by decide +kernel
theorem own_d10_4 : decode jdk_30_method_1_code 4 = .ok (.return_, 1) := by decide +kernel
set_option maxRecDepth 65536 in
set_option maxHeartbeats 40000000 in
theorem rm_rec (l : Launch) (Z : State) (a0 : Array Value) (hw : ∀ d ∈ tables_1, d.before a0 Z = true) (ws : List Jvm.Cond) (o : Addr) (h0 : Heap) (n0 : Nat) (Z0 : n0 ≤ h0.size)  :
    MetFree l (⟨"java/lang/Record", "<init>", "()V"⟩ : MethodName) (head1 (Jvm.Cond.code (⟨"java/lang/Record", "<init>", "()V"⟩ : MethodName) jdk_30_method_1_code 1 none :: ws) ({ frames := 1, cells := 0, slots := 0, locals := 12 } : Room)) (fun aa U => aa = #[(.ref o)] ∧ Z.Warmed39 U.vm ∧ U.heap = h0) (fun _ _ _ _ _ => True) (fun _ U ou U' => ∃ v L, ou = .returned v ∧ Q_rm_rec Z o h0 n0 v U'.heap L ∧ FrameEnd U ou U' L ({ frames := 1, cells := 0, slots := 0, locals := 12 } : Room).cells ({ frames := 1, cells := 0, slots := 0, locals := 12 } : Room).slots) := by
  refine MetFree.of_bodySF (plainFor_of_name own_pn3) hisR ?_
  intro p e s m args below meth c s₁ Bd hml0 hP hK
  obtain ⟨rfl, hZ, hh⟩ := hP
  have hx := Bd.exec
  have hby := Bd.bytes
  have hml : c.maxLocals = 1 := hml0
  have hown : s.vm.findClass "java/lang/Record" = some m.cls := findClass_of_methodNamed Bd.named
  have hnm := (name_of_methodNamed Bd.named Bd.method).1
  have X0 : Stand p l e ({ frames := 1, cells := 0, slots := 0, locals := 12 } : Room) s m #[(.ref o)] below meth c s₁ [] 0 0 := Stand.of_body Bd
  have e0 : s₁.heap = h0 := by rw [← hh, Bd.state]; rfl
  have N0 := Fr.nil n0
  show own_Go p e below (fun o u L => FrameEnd s o u L ({ frames := 1, cells := 0, slots := 0, locals := 12 } : Room).cells ({ frames := 1, cells := 0, slots := 0, locals := 12 } : Room).slots) (Q_rm_rec Z o h0 n0) (s₁.setTop (entryFrame m #[(.ref o)] 1))
  rw [own_ef_rm_rec m o]
  show own_Go _ _ _ _ _ (State.setTop _ (mkF _ 0 #[.val (.ref o)] []))
  refine own_aloadN X0 hx 1 rfl (hb hby own_d10_0) rfl rfl ?_
  refine own_initO X0 hx hZ hown (own_hw hw 64 rfl) (own_hw hw 7 rfl) (own_hw hw 8 rfl) e0 (by rw [hml]; rfl) 4 rfl (hb hby own_d10_1) (by decide) 0 (Nat.le_of_eq rfl) (by decide) fun T827 X827 e827 => ?_
  refine own_ret X827 none (fun _ => rfl) Bd.notSynchronized (by decide) (by decide) ?_ (fun fs hr => X827.returnOut hx Bd.returns (hb hby own_d10_4) hr)
  show Q_rm_rec Z o h0 n0 _ T827.heap _
  rw [e827]
  exact ⟨rfl, N0, rfl⟩
theorem own_pn4 : plainName "com/example/prizepath/prizepath/Insertions$Insertion" = true := by first | (simp [plainName, overriddenIn]; done) | decide +kernel
theorem own_ef_rm_ins (m : MethodId) (o : Addr) (x : Int32) (y : Int32) (z : Int32) : entryFrame m #[(.ref o), (.int x), (.int y), (.int z)] 4 = mkF m 0 #[.val (.ref o), .val (.int x), .val (.int y), .val (.int z)] [] := by first | (simp [entryFrame, mkF, argsToLocals, Value.category]; done) | rfl
def Q_rm_ins (Z : State) (o : Addr) (x : Int32) (y : Int32) (z : Int32) (h0 : Heap) (n0 : Nat) (v : Option Value) (h : Heap) (L : List Loc) : Prop := v = none ∧ Fr n0 L ∧ Keep h0 h [o] ∧ Exa Z h o "com/example/prizepath/prizepath/Insertions$Insertion" ∧ Fld Z h o "com/example/prizepath/prizepath/Insertions$Insertion" "customer" "I" (.int x) ∧ Fld Z h o "com/example/prizepath/prizepath/Insertions$Insertion" "route" "I" (.int y) ∧ Fld Z h o "com/example/prizepath/prizepath/Insertions$Insertion" "place" "I" (.int z)
theorem own_d9_0 : decode prog_16_method_1_code 0 = .ok (.aload_n 0, 1) := by decide +kernel
theorem own_d9_1 : decode prog_16_method_1_code 1 = .ok (.invokespecial 1, 3) := by decide +kernel
theorem own_pd6 : parseMethodDescriptor "()V" = some ⟨[], none⟩ := by decide +kernel
theorem own_d9_4 : decode prog_16_method_1_code 4 = .ok (.aload_n 0, 1) := by decide +kernel
theorem own_d9_5 : decode prog_16_method_1_code 5 = .ok (.iload_n 1, 1) := by decide +kernel
theorem own_d9_6 : decode prog_16_method_1_code 6 = .ok (.putfield 7, 3) := by decide +kernel
theorem own_d9_9 : decode prog_16_method_1_code 9 = .ok (.aload_n 0, 1) := by decide +kernel
theorem own_d9_10 : decode prog_16_method_1_code 10 = .ok (.iload_n 2, 1) := by decide +kernel
theorem own_d9_11 : decode prog_16_method_1_code 11 = .ok (.putfield 13, 3) := by decide +kernel
theorem own_d9_14 : decode prog_16_method_1_code 14 = .ok (.aload_n 0, 1) := by decide +kernel
theorem own_d9_15 : decode prog_16_method_1_code 15 = .ok (.iload_n 3, 1) := by decide +kernel
theorem own_d9_16 : decode prog_16_method_1_code 16 = .ok (.putfield 16, 3) := by decide +kernel
theorem own_d9_19 : decode prog_16_method_1_code 19 = .ok (.return_, 1) := by decide +kernel
set_option maxRecDepth 65536 in
set_option maxHeartbeats 40000000 in
theorem rm_ins (l : Launch) (Z : State) (a0 : Array Value) (hw : ∀ d ∈ tables_1, d.before a0 Z = true) (ws : List Jvm.Cond) (o : Addr) (x : Int32) (y : Int32) (z : Int32) (h0 : Heap) (n0 : Nat) (Z0 : n0 ≤ h0.size) (E1 : Exa Z h0 o "com/example/prizepath/prizepath/Insertions$Insertion") (F_customer : Fld Z h0 o "com/example/prizepath/prizepath/Insertions$Insertion" "customer" "I" (.int (0 : Int32))) (F_route : Fld Z h0 o "com/example/prizepath/prizepath/Insertions$Insertion" "route" "I" (.int (0 : Int32))) (F_place : Fld Z h0 o "com/example/prizepath/prizepath/Insertions$Insertion" "place" "I" (.int (0 : Int32))) (g_o : n0 ≤ o) :
    MetFree l (⟨"com/example/prizepath/prizepath/Insertions$Insertion", "<init>", "(III)V"⟩ : MethodName) (head1 (Jvm.Cond.code (⟨"com/example/prizepath/prizepath/Insertions$Insertion", "<init>", "(III)V"⟩ : MethodName) prog_16_method_1_code 4 none :: ws) ({ frames := 2, cells := 0, slots := 0, locals := 24 } : Room)) (fun aa U => aa = #[(.ref o), (.int x), (.int y), (.int z)] ∧ Z.Warmed39 U.vm ∧ U.heap = h0) (fun _ _ _ _ _ => True) (fun _ U ou U' => ∃ v L, ou = .returned v ∧ Q_rm_ins Z o x y z h0 n0 v U'.heap L ∧ FrameEnd U ou U' L ({ frames := 2, cells := 0, slots := 0, locals := 24 } : Room).cells ({ frames := 2, cells := 0, slots := 0, locals := 24 } : Room).slots) := by
  refine MetFree.of_bodySF (plainFor_of_name own_pn4) hisR ?_
  intro p e s m args below meth c s₁ Bd hml0 hP hK
  obtain ⟨rfl, hZ, hh⟩ := hP
  have hx := Bd.exec
  have hby := Bd.bytes
  have hml : c.maxLocals = 4 := hml0
  have hown : s.vm.findClass "com/example/prizepath/prizepath/Insertions$Insertion" = some m.cls := findClass_of_methodNamed Bd.named
  have hnm := (name_of_methodNamed Bd.named Bd.method).1
  have X0 : Stand p l e ({ frames := 2, cells := 0, slots := 0, locals := 24 } : Room) s m #[(.ref o), (.int x), (.int y), (.int z)] below meth c s₁ [] 0 0 := Stand.of_body Bd
  have e0 : s₁.heap = h0 := by rw [← hh, Bd.state]; rfl
  have N0 := Fr.nil n0
  have K0 := Keep.refl h0 [o]
  show own_Go p e below (fun o u L => FrameEnd s o u L ({ frames := 2, cells := 0, slots := 0, locals := 24 } : Room).cells ({ frames := 2, cells := 0, slots := 0, locals := 24 } : Room).slots) (Q_rm_ins Z o x y z h0 n0) (s₁.setTop (entryFrame m #[(.ref o), (.int x), (.int y), (.int z)] 4))
  rw [own_ef_rm_ins m o x y z]
  show own_Go _ _ _ _ _ (State.setTop _ (mkF _ 0 #[.val (.ref o), .val (.int x), .val (.int y), .val (.int z)] []))
  refine own_aloadN X0 hx 1 rfl (hb hby own_d9_0) rfl rfl ?_
  refine own_special X0 hx hZ (y := (⟨"java/lang/Record", "<init>", "()V"⟩ : MethodName)) hown rfl (own_hw hw 59 rfl) (own_hw hw 60 rfl) (a := o) (by decide) rfl (rm_rec l Z a0 hw [] o h0 n0 Z0 ) (own_hw hw 63 rfl) (own_hw hw 62 rfl) (by decide) e0 (by rw [hml]; rfl) [] 0 (by decide) (Nat.le_of_eq rfl) (by decide) (by decide) (lenOf own_pd6 rfl) rfl rfl 4 rfl (hb hby own_d9_1) fun v828 T828 Lc828 X828 hQ828 => ?_
  obtain ⟨rfl, Nq828, e828⟩ := hQ828
  have N829 := Fr.app N0 Nq828
  show own_Go _ _ _ _ _ (State.setTop _ (mkF _ 4 _ []))
  refine own_aloadN X828 hx 5 rfl (hb hby own_d9_4) rfl rfl ?_
  refine own_iloadN X828 hx 6 rfl (hb hby own_d9_5) rfl ?_
  refine own_putF X828 hx hZ (host := "") hown (Or.inl (own_hw hw 65 rfl)) Via.refl e828 F_customer E1 (Or.inr ⟨(own_hw hw 66 rfl), rfl, hnm⟩) (own_hw hw 54 rfl) (ty := .int) (by decide) rfl rfl 9 rfl (hb hby own_d9_6) fun T830 h830 X830 e830 W830 => ?_
  have f831 := E1.wr W830
  have f832 := F_route.other W830 (Or.inr (slot_ne (Or.inr (own_hw hw 68 rfl)) (Or.inr (own_hw hw 66 rfl)) (by decide) (t := .int) (t' := .int) (by decide) (by decide)))
  have f833 := F_place.other W830 (Or.inr (slot_ne (Or.inr (own_hw hw 70 rfl)) (Or.inr (own_hw hw 66 rfl)) (by decide) (t := .int) (t' := .int) (by decide) (by decide)))
  have z834 := Nat.le_trans Z0 (Keep.of_wr W830).1
  have K835 := K0.wr W830 (Or.inl (List.mem_of_getElem? (i := 0) rfl))
  have f836 := F_customer.same W830
  have N837 := Fr.snoc X830 N829 g_o
  refine own_aloadN X830 hx 10 rfl (hb hby own_d9_9) rfl rfl ?_
  refine own_iloadN X830 hx 11 rfl (hb hby own_d9_10) rfl ?_
  refine own_putF X830 hx hZ (host := "") hown (Or.inl (own_hw hw 67 rfl)) Via.refl e830 f832 f831 (Or.inr ⟨(own_hw hw 68 rfl), rfl, hnm⟩) (own_hw hw 54 rfl) (ty := .int) (by decide) rfl rfl 14 rfl (hb hby own_d9_11) fun T838 h838 X838 e838 W838 => ?_
  have f839 := f831.wr W838
  have f840 := f833.other W838 (Or.inr (slot_ne (Or.inr (own_hw hw 70 rfl)) (Or.inr (own_hw hw 68 rfl)) (by decide) (t := .int) (t' := .int) (by decide) (by decide)))
  have f841 := f836.other W838 (Or.inr (slot_ne (Or.inr (own_hw hw 66 rfl)) (Or.inr (own_hw hw 68 rfl)) (by decide) (t := .int) (t' := .int) (by decide) (by decide)))
  have z842 := Nat.le_trans z834 (Keep.of_wr W838).1
  have K843 := K835.wr W838 (Or.inl (List.mem_of_getElem? (i := 0) rfl))
  have f844 := f832.same W838
  have N845 := Fr.snoc X838 N837 g_o
  refine own_aloadN X838 hx 15 rfl (hb hby own_d9_14) rfl rfl ?_
  refine own_iloadN X838 hx 16 rfl (hb hby own_d9_15) rfl ?_
  refine own_putF X838 hx hZ (host := "") hown (Or.inl (own_hw hw 69 rfl)) Via.refl e838 f840 f839 (Or.inr ⟨(own_hw hw 70 rfl), rfl, hnm⟩) (own_hw hw 54 rfl) (ty := .int) (by decide) rfl rfl 19 rfl (hb hby own_d9_16) fun T846 h846 X846 e846 W846 => ?_
  have f847 := f839.wr W846
  have f848 := f841.other W846 (Or.inr (slot_ne (Or.inr (own_hw hw 66 rfl)) (Or.inr (own_hw hw 70 rfl)) (by decide) (t := .int) (t' := .int) (by decide) (by decide)))
  have f849 := f844.other W846 (Or.inr (slot_ne (Or.inr (own_hw hw 68 rfl)) (Or.inr (own_hw hw 70 rfl)) (by decide) (t := .int) (t' := .int) (by decide) (by decide)))
  have z850 := Nat.le_trans z842 (Keep.of_wr W846).1
  have K851 := K843.wr W846 (Or.inl (List.mem_of_getElem? (i := 0) rfl))
  have f852 := f840.same W846
  have N853 := Fr.snoc X846 N845 g_o
  refine own_ret X846 none (fun _ => rfl) Bd.notSynchronized (by decide) (by decide) ?_ (fun fs hr => X846.returnOut hx Bd.returns (hb hby own_d9_19) hr)
  show Q_rm_ins Z o x y z h0 n0 _ T846.heap _
  rw [e846]
  exact ⟨rfl, N853, K851, f847, f848, f849, f852⟩
theorem own_ef_rm_take10 (m : MethodId) (o : Addr) : entryFrame m #[(.ref o), (.int (0 : Int32))] 5 = mkF m 0 #[.val (.ref o), .val (.int (0 : Int32)), .unset, .unset, .unset] [] := by first | (simp [entryFrame, mkF, argsToLocals, Value.category]; done) | rfl
def Q_rm_take10 (Z : State) (o : Addr) (a1 : Addr) (a2 : Addr) (a3 : Addr) (a4 : Addr) (a5 : Addr) (k1 : ClassId) (k2 : ClassId) (k3 : ClassId) (k4 : ClassId) (k5 : ClassId) (c0 : Int32) (c1 : Int32) (c2 : Int32) (r0 : Int32) (r1 : Int32) (r2 : Int32) (p0 : Int32) (p1 : Int32) (p2 : Int32) (d0 : UInt64) (d1 : UInt64) (d2 : UInt64) (h0 : Heap) (n0 : Nat) (v : Option Value) (h : Heap) (L : List Loc) : Prop := ∃ b : Addr, v = some (.ref b) ∧ Fr n0 L ∧ Keep h0 h [o, a1, a2, a3, a4, a5] ∧ Fld Z h o "com/example/prizepath/prizepath/Insertions" "size" "I" (.int (0 : Int32))
theorem own_d7_0 : decode prog_15_method_6_code 0 = .ok (.iload_n 1, 1) := by decide +kernel
theorem own_d7_1 : decode prog_15_method_6_code 1 = .ok (.ifCond .lt 11, 3) := by decide +kernel
theorem own_d7_4 : decode prog_15_method_6_code 4 = .ok (.iload_n 1, 1) := by decide +kernel
theorem own_d7_5 : decode prog_15_method_6_code 5 = .ok (.aload_n 0, 1) := by decide +kernel
theorem own_d7_6 : decode prog_15_method_6_code 6 = .ok (.getfield 28, 3) := by decide +kernel
theorem own_d7_9 : decode prog_15_method_6_code 9 = .ok (.if_icmp .lt 21, 3) := by decide +kernel
theorem own_d7_30 : decode prog_15_method_6_code 30 = .ok (.aload_n 0, 1) := by decide +kernel
theorem own_d7_31 : decode prog_15_method_6_code 31 = .ok (.getfield 25, 3) := by decide +kernel
theorem own_d7_34 : decode prog_15_method_6_code 34 = .ok (.arraylength, 1) := by decide +kernel
theorem own_d7_35 : decode prog_15_method_6_code 35 = .ok (.iload_n 1, 1) := by decide +kernel
theorem own_d7_36 : decode prog_15_method_6_code 36 = .ok (.if_icmp .gt 12, 3) := by decide +kernel
theorem own_d7_48 : decode prog_15_method_6_code 48 = .ok (.iconst 0, 1) := by decide +kernel
theorem own_d7_49 : decode prog_15_method_6_code 49 = .ok (.istore_n 2, 1) := by decide +kernel
theorem own_d7_50 : decode prog_15_method_6_code 50 = .ok (.iconst 0, 1) := by decide +kernel
theorem own_d7_51 : decode prog_15_method_6_code 51 = .ok (.istore_n 3, 1) := by decide +kernel
theorem own_d7_52 : decode prog_15_method_6_code 52 = .ok (.iload_n 3, 1) := by decide +kernel
theorem own_d7_53 : decode prog_15_method_6_code 53 = .ok (.aload_n 0, 1) := by decide +kernel
theorem own_d7_54 : decode prog_15_method_6_code 54 = .ok (.getfield 28, 3) := by decide +kernel
theorem own_d7_57 : decode prog_15_method_6_code 57 = .ok (.if_icmp .ge 58, 3) := by decide +kernel
theorem own_d7_60 : decode prog_15_method_6_code 60 = .ok (.iload_n 2, 1) := by decide +kernel
theorem own_d7_61 : decode prog_15_method_6_code 61 = .ok (.iload_n 1, 1) := by decide +kernel
theorem own_d7_62 : decode prog_15_method_6_code 62 = .ok (.if_icmp .gt 21, 3) := by decide +kernel
theorem own_d7_65 : decode prog_15_method_6_code 65 = .ok (.aload_n 0, 1) := by decide +kernel
theorem own_d7_66 : decode prog_15_method_6_code 66 = .ok (.getfield 25, 3) := by decide +kernel
theorem own_d7_69 : decode prog_15_method_6_code 69 = .ok (.iload_n 2, 1) := by decide +kernel
theorem own_d7_70 : decode prog_15_method_6_code 70 = .ok (.iload_n 3, 1) := by decide +kernel
theorem own_d7_71 : decode prog_15_method_6_code 71 = .ok (.iastore, 1) := by decide +kernel
theorem own_d7_72 : decode prog_15_method_6_code 72 = .ok (.aload_n 0, 1) := by decide +kernel
theorem own_d7_73 : decode prog_15_method_6_code 73 = .ok (.iload_n 2, 1) := by decide +kernel
theorem own_d7_74 : decode prog_15_method_6_code 74 = .ok (.invokevirtual 50, 3) := by decide +kernel
theorem own_pd7 : parseMethodDescriptor "(I)V" = some ⟨[.int], none⟩ := by decide +kernel
theorem own_d7_77 : decode prog_15_method_6_code 77 = .ok (.iinc 2 1, 3) := by decide +kernel
theorem own_d7_80 : decode prog_15_method_6_code 80 = .ok (.goto 29, 3) := by decide +kernel
theorem own_d7_109 : decode prog_15_method_6_code 109 = .ok (.iinc 3 1, 3) := by decide +kernel
theorem own_d7_112 : decode prog_15_method_6_code 112 = .ok (.goto (-60), 3) := by decide +kernel
theorem own_d7_115 : decode prog_15_method_6_code 115 = .ok (.aload_n 0, 1) := by decide +kernel
theorem own_d7_116 : decode prog_15_method_6_code 116 = .ok (.getfield 25, 3) := by decide +kernel
theorem own_d7_119 : decode prog_15_method_6_code 119 = .ok (.iconst 0, 1) := by decide +kernel
theorem own_d7_120 : decode prog_15_method_6_code 120 = .ok (.iaload, 1) := by decide +kernel
theorem own_d7_121 : decode prog_15_method_6_code 121 = .ok (.istore_n 3, 1) := by decide +kernel
theorem own_d7_122 : decode prog_15_method_6_code 122 = .ok (.new 61, 3) := by decide +kernel
theorem own_d7_125 : decode prog_15_method_6_code 125 = .ok (.dup, 1) := by decide +kernel
theorem own_d7_126 : decode prog_15_method_6_code 126 = .ok (.aload_n 0, 1) := by decide +kernel
theorem own_d7_127 : decode prog_15_method_6_code 127 = .ok (.getfield 11, 3) := by decide +kernel
theorem own_d7_130 : decode prog_15_method_6_code 130 = .ok (.iload_n 3, 1) := by decide +kernel
theorem own_d7_131 : decode prog_15_method_6_code 131 = .ok (.iaload, 1) := by decide +kernel
theorem own_d7_132 : decode prog_15_method_6_code 132 = .ok (.aload_n 0, 1) := by decide +kernel
theorem own_d7_133 : decode prog_15_method_6_code 133 = .ok (.getfield 15, 3) := by decide +kernel
theorem own_d7_136 : decode prog_15_method_6_code 136 = .ok (.iload_n 3, 1) := by decide +kernel
theorem own_d7_137 : decode prog_15_method_6_code 137 = .ok (.iaload, 1) := by decide +kernel
theorem own_d7_138 : decode prog_15_method_6_code 138 = .ok (.aload_n 0, 1) := by decide +kernel
theorem own_d7_139 : decode prog_15_method_6_code 139 = .ok (.getfield 18, 3) := by decide +kernel
theorem own_d7_142 : decode prog_15_method_6_code 142 = .ok (.iload_n 3, 1) := by decide +kernel
theorem own_d7_143 : decode prog_15_method_6_code 143 = .ok (.iaload, 1) := by decide +kernel
theorem own_d7_144 : decode prog_15_method_6_code 144 = .ok (.invokespecial 63, 3) := by decide +kernel
theorem own_pd8 : parseMethodDescriptor "(III)V" = some ⟨[.int, .int, .int], none⟩ := by decide +kernel
theorem own_d7_147 : decode prog_15_method_6_code 147 = .ok (.astore 4, 2) := by decide +kernel
theorem own_d7_149 : decode prog_15_method_6_code 149 = .ok (.aload_n 0, 1) := by decide +kernel
theorem own_d7_150 : decode prog_15_method_6_code 150 = .ok (.iload_n 3, 1) := by decide +kernel
theorem own_d7_151 : decode prog_15_method_6_code 151 = .ok (.invokevirtual 66, 3) := by decide +kernel
theorem own_d7_154 : decode prog_15_method_6_code 154 = .ok (.aload 4, 2) := by decide +kernel
theorem own_d7_156 : decode prog_15_method_6_code 156 = .ok (.areturn, 1) := by decide +kernel
set_option maxRecDepth 65536 in
set_option maxHeartbeats 40000000 in
theorem rm_take10 (l : Launch) (Z : State) (a0 : Array Value) (hw : ∀ d ∈ tables_1, d.before a0 Z = true) (ws : List Jvm.Cond) (o : Addr) (a1 : Addr) (a2 : Addr) (a3 : Addr) (a4 : Addr) (a5 : Addr) (k1 : ClassId) (k2 : ClassId) (k3 : ClassId) (k4 : ClassId) (k5 : ClassId) (c0 : Int32) (c1 : Int32) (c2 : Int32) (r0 : Int32) (r1 : Int32) (r2 : Int32) (p0 : Int32) (p1 : Int32) (p2 : Int32) (d0 : UInt64) (d1 : UInt64) (d2 : UInt64) (h0 : Heap) (n0 : Nat) (Z0 : n0 ≤ h0.size) (E0 : Exa Z h0 o "com/example/prizepath/prizepath/Insertions") (F1 : Fld Z h0 o "com/example/prizepath/prizepath/Insertions" "customers" "[I" (.ref a1)) (F2 : Fld Z h0 o "com/example/prizepath/prizepath/Insertions" "routes" "[I" (.ref a2)) (F3 : Fld Z h0 o "com/example/prizepath/prizepath/Insertions" "places" "[I" (.ref a3)) (F4 : Fld Z h0 o "com/example/prizepath/prizepath/Insertions" "ranks" "[D" (.ref a4)) (F5 : Fld Z h0 o "com/example/prizepath/prizepath/Insertions" "kept" "[I" (.ref a5)) (A1 : Arv Z h0 a1 k1 .int (256 : Int32) [(.int c0), (.int c1), (.int c2)] (.int (0 : Int32))) (A2 : Arv Z h0 a2 k2 .int (256 : Int32) [(.int r0), (.int r1), (.int r2)] (.int (0 : Int32))) (A3 : Arv Z h0 a3 k3 .int (256 : Int32) [(.int p0), (.int p1), (.int p2)] (.int (0 : Int32))) (A4 : Arv Z h0 a4 k4 .double (256 : Int32) [(.double d0), (.double d1), (.double d2)] (.double (0 : UInt64))) (A5 : Arv Z h0 a5 k5 .int (1 : Int32) [(.int (0 : Int32))] (.int (0 : Int32))) (FZ : Fld Z h0 o "com/example/prizepath/prizepath/Insertions" "size" "I" (.int (1 : Int32))) (g_o : n0 ≤ o) (g_a1 : n0 ≤ a1) (g_a2 : n0 ≤ a2) (g_a3 : n0 ≤ a3) (g_a4 : n0 ≤ a4) (g_a5 : n0 ≤ a5) (n_oa1 : o ≠ a1) (n_oa2 : o ≠ a2) (n_oa3 : o ≠ a3) (n_oa4 : o ≠ a4) (n_a1a2 : a1 ≠ a2) (n_a1a3 : a1 ≠ a3) (n_a1a4 : a1 ≠ a4) (n_a2a3 : a2 ≠ a3) (n_a2a4 : a2 ≠ a4) (n_a3a4 : a3 ≠ a4) (n_oa5 : o ≠ a5) (n_a1a5 : a1 ≠ a5) (n_a2a5 : a2 ≠ a5) (n_a3a5 : a3 ≠ a5) (n_a4a5 : a4 ≠ a5) (nd0 : cmpValue (FP.dcmp d0 d0) .l = 0) (nd1 : cmpValue (FP.dcmp d1 d1) .l = 0) (nd2 : cmpValue (FP.dcmp d2 d2) .l = 0) :
    MetFree l (⟨"com/example/prizepath/prizepath/Insertions", "take", "(I)Lcom/example/prizepath/prizepath/Insertions$Insertion;"⟩ : MethodName) (head1 (Jvm.Cond.code (⟨"com/example/prizepath/prizepath/Insertions", "take", "(I)Lcom/example/prizepath/prizepath/Insertions$Insertion;"⟩ : MethodName) prog_15_method_6_code 5 (some (.object "com/example/prizepath/prizepath/Insertions$Insertion")) :: ws) ({ frames := 5, cells := 2, slots := 4, locals := 100 } : Room)) (fun aa U => aa = #[(.ref o), (.int (0 : Int32))] ∧ Z.Warmed39 U.vm ∧ U.heap = h0) (fun _ _ _ _ _ => True) (fun _ U ou U' => ∃ v L, ou = .returned v ∧ Q_rm_take10 Z o a1 a2 a3 a4 a5 k1 k2 k3 k4 k5 c0 c1 c2 r0 r1 r2 p0 p1 p2 d0 d1 d2 h0 n0 v U'.heap L ∧ FrameEnd U ou U' L ({ frames := 5, cells := 2, slots := 4, locals := 100 } : Room).cells ({ frames := 5, cells := 2, slots := 4, locals := 100 } : Room).slots) := by
  refine MetFree.of_bodySF (plainFor_of_name own_pn2) hisR ?_
  intro p e s m args below meth c s₁ Bd hml0 hP hK
  obtain ⟨rfl, hZ, hh⟩ := hP
  have hx := Bd.exec
  have hby := Bd.bytes
  have hml : c.maxLocals = 5 := hml0
  have hown : s.vm.findClass "com/example/prizepath/prizepath/Insertions" = some m.cls := findClass_of_methodNamed Bd.named
  have hnm := (name_of_methodNamed Bd.named Bd.method).1
  have X0 : Stand p l e ({ frames := 5, cells := 2, slots := 4, locals := 100 } : Room) s m #[(.ref o), (.int (0 : Int32))] below meth c s₁ [] 0 0 := Stand.of_body Bd
  have e0 : s₁.heap = h0 := by rw [← hh, Bd.state]; rfl
  have N0 := Fr.nil n0
  have K0 := Keep.refl h0 [o, a1, a2, a3, a4, a5]
  show own_Go p e below (fun o u L => FrameEnd s o u L ({ frames := 5, cells := 2, slots := 4, locals := 100 } : Room).cells ({ frames := 5, cells := 2, slots := 4, locals := 100 } : Room).slots) (Q_rm_take10 Z o a1 a2 a3 a4 a5 k1 k2 k3 k4 k5 c0 c1 c2 r0 r1 r2 p0 p1 p2 d0 d1 d2 h0 n0) (s₁.setTop (entryFrame m #[(.ref o), (.int (0 : Int32))] 5))
  rw [own_ef_rm_take10 m o]
  show own_Go _ _ _ _ _ (State.setTop _ (mkF _ 0 #[.val (.ref o), .val (.int (0 : Int32)), .unset, .unset, .unset] []))
  refine own_iloadN X0 hx 1 rfl (hb hby own_d7_0) rfl ?_
  refine own_ifNo X0 hx 4 rfl (hb hby own_d7_1) (by decide) ?_
  refine own_iloadN X0 hx 5 rfl (hb hby own_d7_4) rfl ?_
  refine own_aloadN X0 hx 6 rfl (hb hby own_d7_5) rfl rfl ?_
  refine own_getF X0 hx hZ (host := "") hown (Or.inl (own_hw hw 26 rfl)) Via.refl e0 FZ 9 rfl (hb hby own_d7_6) fun T854 X854 e854 => ?_
  refine own_icmpYes X854 hx 30 (hb hby own_d7_9) (by decide) (by decide) rfl ?_
  refine own_aloadN X854 hx 31 rfl (hb hby own_d7_30) rfl rfl ?_
  refine own_getF X854 hx hZ (host := "") hown (Or.inl (own_hw hw 19 rfl)) Via.refl e854 F5 34 rfl (hb hby own_d7_31) fun T855 X855 e855 => ?_
  refine own_len X855 hx hZ e855 A5 35 rfl (hb hby own_d7_34) ?_
  refine own_iloadN X855 hx 36 rfl (hb hby own_d7_35) rfl ?_
  refine own_icmpYes X855 hx 48 (hb hby own_d7_36) (by decide) (by decide) rfl ?_
  refine own_iconst X855 hx 49 rfl (hb hby own_d7_48) (0 : Int32) rfl ?_
  refine own_istoreN X855 hx 50 rfl (hb hby own_d7_49) #[.val (.ref o), .val (.int (0 : Int32)), .val (.int (0 : Int32)), .unset, .unset] rfl ?_
  refine own_iconst X855 hx 51 rfl (hb hby own_d7_50) (0 : Int32) rfl ?_
  refine own_istoreN X855 hx 52 rfl (hb hby own_d7_51) #[.val (.ref o), .val (.int (0 : Int32)), .val (.int (0 : Int32)), .val (.int (0 : Int32)), .unset] rfl ?_
  refine own_iloadN X855 hx 53 rfl (hb hby own_d7_52) rfl ?_
  refine own_aloadN X855 hx 54 rfl (hb hby own_d7_53) rfl rfl ?_
  refine own_getF X855 hx hZ (host := "") hown (Or.inl (own_hw hw 26 rfl)) Via.refl e855 FZ 57 rfl (hb hby own_d7_54) fun T856 X856 e856 => ?_
  refine own_icmpNo X856 hx 60 rfl (hb hby own_d7_57) (by decide) ?_
  refine own_iloadN X856 hx 61 rfl (hb hby own_d7_60) rfl ?_
  refine own_iloadN X856 hx 62 rfl (hb hby own_d7_61) rfl ?_
  refine own_icmpNo X856 hx 65 rfl (hb hby own_d7_62) (by decide) ?_
  refine own_aloadN X856 hx 66 rfl (hb hby own_d7_65) rfl rfl ?_
  refine own_getF X856 hx hZ (host := "") hown (Or.inl (own_hw hw 19 rfl)) Via.refl e856 F5 69 rfl (hb hby own_d7_66) fun T857 X857 e857 => ?_
  refine own_iloadN X857 hx 70 rfl (hb hby own_d7_69) rfl ?_
  refine own_iloadN X857 hx 71 rfl (hb hby own_d7_70) rfl ?_
  refine own_stI X857 hx hZ e857 A5 ⟨by decide, by decide⟩ 0 rfl (Nat.le_of_ble_eq_true rfl) [(.int (0 : Int32))] rfl 72 rfl (hb hby own_d7_71) fun T858 h858 X858 e858 W858 f859 => ?_
  have f860 := E0.wr W858
  have f861 := F1.other W858 (Or.inl n_oa5)
  have f862 := F2.other W858 (Or.inl n_oa5)
  have f863 := F3.other W858 (Or.inl n_oa5)
  have f864 := F4.other W858 (Or.inl n_oa5)
  have f865 := F5.other W858 (Or.inl n_oa5)
  have f866 := A1.other W858 n_a1a5
  have f867 := A2.other W858 n_a2a5
  have f868 := A3.other W858 n_a3a5
  have f869 := A4.other W858 n_a4a5
  have f870 := FZ.other W858 (Or.inl n_oa5)
  have z871 := Nat.le_trans Z0 (Keep.of_wr W858).1
  have K872 := K0.wr W858 (Or.inl (List.mem_of_getElem? (i := 5) rfl))
  have N873 := Fr.snoc X858 N0 g_a5
  refine own_aloadN X858 hx 73 rfl (hb hby own_d7_72) rfl rfl ?_
  refine own_iloadN X858 hx 74 rfl (hb hby own_d7_73) rfl ?_
  refine own_private X858 hx hZ (y := (⟨"com/example/prizepath/prizepath/Insertions", "siftUp", "(I)V"⟩ : MethodName)) (z := (⟨"com/example/prizepath/prizepath/Insertions", "clear", "()V"⟩ : MethodName)) hown (own_hw hw 49 rfl) (own_hw hw 50 rfl) rfl (own_hw hw 24 rfl) (own_hw hw 51 rfl) (a := o) f860 (by decide) (rm_up0 l Z a0 hw [] o h858 n0 z871 ) (own_hw hw 52 rfl) (own_hw hw 2 rfl) (by decide) e858 (by rw [hml]; rfl) [(.int (0 : Int32))] 0 (by decide) (Nat.le_of_eq rfl) (by decide) (by decide) (lenOf own_pd7 rfl) rfl rfl 77 rfl (hb hby own_d7_74) fun v874 T874 Lc874 X874 hQ874 => ?_
  obtain ⟨rfl, Nq874, e874⟩ := hQ874
  have N875 := Fr.app N873 Nq874
  show own_Go _ _ _ _ _ (State.setTop _ (mkF _ 77 _ []))
  refine own_iinc X874 hx 80 rfl (hb hby own_d7_77) rfl #[.val (.ref o), .val (.int (0 : Int32)), .val (.int (1 : Int32)), .val (.int (0 : Int32)), .unset] rfl ?_
  refine own_goto X874 hx 109 (hb hby own_d7_80) (by decide) rfl ?_
  refine own_iinc X874 hx 112 rfl (hb hby own_d7_109) rfl #[.val (.ref o), .val (.int (0 : Int32)), .val (.int (1 : Int32)), .val (.int (1 : Int32)), .unset] rfl ?_
  refine own_goto X874 hx 52 (hb hby own_d7_112) (by decide) rfl ?_
  refine own_iloadN X874 hx 53 rfl (hb hby own_d7_52) rfl ?_
  refine own_aloadN X874 hx 54 rfl (hb hby own_d7_53) rfl rfl ?_
  refine own_getF X874 hx hZ (host := "") hown (Or.inl (own_hw hw 26 rfl)) Via.refl e874 f870 57 rfl (hb hby own_d7_54) fun T876 X876 e876 => ?_
  refine own_icmpYes X876 hx 115 (hb hby own_d7_57) (by decide) (by decide) rfl ?_
  refine own_aloadN X876 hx 116 rfl (hb hby own_d7_115) rfl rfl ?_
  refine own_getF X876 hx hZ (host := "") hown (Or.inl (own_hw hw 19 rfl)) Via.refl e876 f865 119 rfl (hb hby own_d7_116) fun T877 X877 e877 => ?_
  refine own_iconst X877 hx 120 rfl (hb hby own_d7_119) (0 : Int32) rfl ?_
  refine own_ldI X877 hx hZ e877 f859 ⟨by decide, by decide⟩ (0 : Int32) rfl 121 rfl (hb hby own_d7_120) ?_
  refine own_istoreN X877 hx 122 rfl (hb hby own_d7_121) #[.val (.ref o), .val (.int (0 : Int32)), .val (.int (1 : Int32)), .val (.int (0 : Int32)), .unset] rfl ?_
  refine own_new X877 hx hZ hown (own_hw hw 53 rfl) (own_hw hw 54 rfl) (own_hw hw 55 rfl) e877 125 rfl (hb hby own_d7_122) (by decide) (by decide) fun T878 h878 b878 g878 X878 e878 E878 A878 D878 => ?_
  have ne879 : o ≠ b878 := Nat.ne_of_lt (Nat.lt_of_lt_of_le f860.lt (Nat.le_of_eq g878.symm))
  have ne880 : a1 ≠ b878 := Nat.ne_of_lt (Nat.lt_of_lt_of_le f866.lt (Nat.le_of_eq g878.symm))
  have ne881 : a2 ≠ b878 := Nat.ne_of_lt (Nat.lt_of_lt_of_le f867.lt (Nat.le_of_eq g878.symm))
  have ne882 : a3 ≠ b878 := Nat.ne_of_lt (Nat.lt_of_lt_of_le f868.lt (Nat.le_of_eq g878.symm))
  have ne883 : a4 ≠ b878 := Nat.ne_of_lt (Nat.lt_of_lt_of_le f869.lt (Nat.le_of_eq g878.symm))
  have ne884 : a5 ≠ b878 := Nat.ne_of_lt (Nat.lt_of_lt_of_le f859.lt (Nat.le_of_eq g878.symm))
  have ge885 : n0 ≤ b878 := Nat.le_trans z871 (Nat.le_of_eq g878.symm)
  have sz886 : h0.size ≤ b878 := Nat.le_trans K872.1 (Nat.le_of_eq g878.symm)
  have f887 := f860.ext E878
  have f888 := f861.ext E878
  have f889 := f862.ext E878
  have f890 := f863.ext E878
  have f891 := f864.ext E878
  have f892 := f865.ext E878
  have f893 := f866.ext E878
  have f894 := f867.ext E878
  have f895 := f868.ext E878
  have f896 := f869.ext E878
  have f897 := f870.ext E878
  have f898 := f859.ext E878
  have z899 := Nat.le_trans z871 E878.1
  have K900 := K872.ext E878
  have f901 : Fld Z h878 b878 "com/example/prizepath/prizepath/Insertions$Insertion" "customer" "I" (.int (0 : Int32)) := D878 (Or.inr (own_hw hw 66 rfl)) (ty := .int) (by decide)
  have f902 : Fld Z h878 b878 "com/example/prizepath/prizepath/Insertions$Insertion" "route" "I" (.int (0 : Int32)) := D878 (Or.inr (own_hw hw 68 rfl)) (ty := .int) (by decide)
  have f903 : Fld Z h878 b878 "com/example/prizepath/prizepath/Insertions$Insertion" "place" "I" (.int (0 : Int32)) := D878 (Or.inr (own_hw hw 70 rfl)) (ty := .int) (by decide)
  refine own_dup X878 hx 126 rfl (hb hby own_d7_125) rfl ?_
  refine own_aloadN X878 hx 127 rfl (hb hby own_d7_126) rfl rfl ?_
  refine own_getF X878 hx hZ (host := "") hown (Or.inl (own_hw hw 10 rfl)) Via.refl e878 f888 130 rfl (hb hby own_d7_127) fun T904 X904 e904 => ?_
  refine own_iloadN X904 hx 131 rfl (hb hby own_d7_130) rfl ?_
  refine own_ldI X904 hx hZ e904 f893 ⟨by decide, by decide⟩ c0 rfl 132 rfl (hb hby own_d7_131) ?_
  refine own_aloadN X904 hx 133 rfl (hb hby own_d7_132) rfl rfl ?_
  refine own_getF X904 hx hZ (host := "") hown (Or.inl (own_hw hw 12 rfl)) Via.refl e904 f889 136 rfl (hb hby own_d7_133) fun T905 X905 e905 => ?_
  refine own_iloadN X905 hx 137 rfl (hb hby own_d7_136) rfl ?_
  refine own_ldI X905 hx hZ e905 f894 ⟨by decide, by decide⟩ r0 rfl 138 rfl (hb hby own_d7_137) ?_
  refine own_aloadN X905 hx 139 rfl (hb hby own_d7_138) rfl rfl ?_
  refine own_getF X905 hx hZ (host := "") hown (Or.inl (own_hw hw 14 rfl)) Via.refl e905 f890 142 rfl (hb hby own_d7_139) fun T906 X906 e906 => ?_
  refine own_iloadN X906 hx 143 rfl (hb hby own_d7_142) rfl ?_
  refine own_ldI X906 hx hZ e906 f895 ⟨by decide, by decide⟩ p0 rfl 144 rfl (hb hby own_d7_143) ?_
  refine own_special X906 hx hZ (y := (⟨"com/example/prizepath/prizepath/Insertions$Insertion", "<init>", "(III)V"⟩ : MethodName)) hown rfl (own_hw hw 56 rfl) (own_hw hw 57 rfl) (a := b878) (by decide) rfl (rm_ins l Z a0 hw [] b878 c0 r0 p0 h878 n0 z899 A878 f901 f902 f903 ge885) (own_hw hw 58 rfl) (own_hw hw 55 rfl) (by decide) e906 (by rw [hml]; rfl) [(.int c0), (.int r0), (.int p0)] 1 (by decide) (Nat.le_of_eq rfl) (by decide) (by decide) (lenOf own_pd8 rfl) rfl rfl 147 rfl (hb hby own_d7_144) fun v907 T907 Lc907 X907 hQ907 => ?_
  obtain ⟨rfl, Nq907, Kq907, f908, f909, f910, f911⟩ := hQ907
  have N912 := Fr.app N875 Nq907
  have f913 := f887.keep Kq907
  have f914 := f888.keep Kq907 (ninS ne879 nin0)
  have f915 := f889.keep Kq907 (ninS ne879 nin0)
  have f916 := f890.keep Kq907 (ninS ne879 nin0)
  have f917 := f891.keep Kq907 (ninS ne879 nin0)
  have f918 := f892.keep Kq907 (ninS ne879 nin0)
  have f919 := f893.keep Kq907 (ninS ne880 nin0)
  have f920 := f894.keep Kq907 (ninS ne881 nin0)
  have f921 := f895.keep Kq907 (ninS ne882 nin0)
  have f922 := f896.keep Kq907 (ninS ne883 nin0)
  have f923 := f897.keep Kq907 (ninS ne879 nin0)
  have f924 := f898.keep Kq907 (ninS ne884 nin0)
  have f925 := A878.keep Kq907
  have z929 := Nat.le_trans z899 Kq907.1
  have K930 := K900.trans Kq907 (allS (Or.inr sz886) all0)
  show own_Go _ _ _ _ _ (State.setTop _ (mkF _ 147 _ [(.ref b878)]))
  refine own_astore X907 hx 149 rfl (hb hby own_d7_147) rfl #[.val (.ref o), .val (.int (0 : Int32)), .val (.int (1 : Int32)), .val (.int (0 : Int32)), .val (.ref b878)] rfl ?_
  refine own_aloadN X907 hx 150 rfl (hb hby own_d7_149) rfl rfl ?_
  refine own_iloadN X907 hx 151 rfl (hb hby own_d7_150) rfl ?_
  refine own_private X907 hx hZ (y := (⟨"com/example/prizepath/prizepath/Insertions", "moveLastTo", "(I)V"⟩ : MethodName)) (z := (⟨"com/example/prizepath/prizepath/Insertions", "clear", "()V"⟩ : MethodName)) hown (own_hw hw 71 rfl) (own_hw hw 72 rfl) rfl (own_hw hw 24 rfl) (own_hw hw 73 rfl) (a := o) f913 (by decide) (rm_mv10 l Z a0 hw [] o a1 a2 a3 a4 k1 k2 k3 k4 c0 c1 c2 r0 r1 r2 p0 p1 p2 d0 d1 d2 T907.heap n0 z929 f913 f914 f915 f916 f917 f919 f920 f921 f922 f923 g_o g_a1 g_a2 g_a3 g_a4 n_oa1 n_oa2 n_oa3 n_oa4 n_a1a2 n_a1a3 n_a1a4 n_a2a3 n_a2a4 n_a3a4) (own_hw hw 74 rfl) (own_hw hw 2 rfl) (by decide) rfl (by rw [hml]; rfl) [(.int (0 : Int32))] 0 (by decide) (Nat.le_of_eq rfl) (by decide) (by decide) (lenOf own_pd7 rfl) rfl rfl 154 rfl (hb hby own_d7_151) fun v931 T931 Lc931 X931 hQ931 => ?_
  obtain ⟨rfl, Nq931, Kq931, f932⟩ := hQ931
  have N933 := Fr.app N912 Nq931
  have f934 := f913.keep Kq931
  have f945 := f924.keep Kq931 (ninS (Ne.symm n_oa5) (ninS (Ne.symm n_a1a5) (ninS (Ne.symm n_a2a5) (ninS (Ne.symm n_a3a5) (ninS (Ne.symm n_a4a5) nin0)))))
  have f946 := f908.keep Kq931
  have f947 := f909.keep Kq931 (ninS (Ne.symm ne879) (ninS (Ne.symm ne880) (ninS (Ne.symm ne881) (ninS (Ne.symm ne882) (ninS (Ne.symm ne883) nin0)))))
  have f948 := f910.keep Kq931 (ninS (Ne.symm ne879) (ninS (Ne.symm ne880) (ninS (Ne.symm ne881) (ninS (Ne.symm ne882) (ninS (Ne.symm ne883) nin0)))))
  have f949 := f911.keep Kq931 (ninS (Ne.symm ne879) (ninS (Ne.symm ne880) (ninS (Ne.symm ne881) (ninS (Ne.symm ne882) (ninS (Ne.symm ne883) nin0)))))
  have z950 := Nat.le_trans z929 Kq931.1
  have K951 := K930.trans Kq931 (allS (Or.inl (List.mem_of_getElem? (i := 0) rfl)) (allS (Or.inl (List.mem_of_getElem? (i := 1) rfl)) (allS (Or.inl (List.mem_of_getElem? (i := 2) rfl)) (allS (Or.inl (List.mem_of_getElem? (i := 3) rfl)) (allS (Or.inl (List.mem_of_getElem? (i := 4) rfl)) all0)))))
  show own_Go _ _ _ _ _ (State.setTop _ (mkF _ 154 _ []))
  refine own_aload X931 hx 156 rfl (hb hby own_d7_154) rfl rfl ?_
  refine own_ret X931 (some (.ref b878)) (fun h => by rw [Bd.returns] at h; cases h) Bd.notSynchronized (by decide) (by decide) ?_ (fun fs hr => own_retR X931 hx Bd.returns rfl rfl (hb hby own_d7_156) hr)
  show Q_rm_take10 Z o a1 a2 a3 a4 a5 k1 k2 k3 k4 k5 c0 c1 c2 r0 r1 r2 p0 p1 p2 d0 d1 d2 h0 n0 _ T931.heap _
  exact ⟨_, rfl, N933, K951, f932⟩
theorem own_ef_rm_take20 (m : MethodId) (o : Addr) : entryFrame m #[(.ref o), (.int (0 : Int32))] 5 = mkF m 0 #[.val (.ref o), .val (.int (0 : Int32)), .unset, .unset, .unset] [] := by first | (simp [entryFrame, mkF, argsToLocals, Value.category]; done) | rfl
def Q_rm_take20 (Z : State) (o : Addr) (a1 : Addr) (a2 : Addr) (a3 : Addr) (a4 : Addr) (a5 : Addr) (k1 : ClassId) (k2 : ClassId) (k3 : ClassId) (k4 : ClassId) (k5 : ClassId) (c0 : Int32) (c1 : Int32) (c2 : Int32) (r0 : Int32) (r1 : Int32) (r2 : Int32) (p0 : Int32) (p1 : Int32) (p2 : Int32) (d0 : UInt64) (d1 : UInt64) (d2 : UInt64) (h0 : Heap) (n0 : Nat) (v : Option Value) (h : Heap) (L : List Loc) : Prop := ∃ b : Addr, v = some (.ref b) ∧ Fr n0 L ∧ Keep h0 h [o, a1, a2, a3, a4, a5] ∧ Fld Z h o "com/example/prizepath/prizepath/Insertions" "size" "I" (.int (1 : Int32))
theorem own_d7_83 : decode prog_15_method_6_code 83 = .ok (.aload_n 0, 1) := by decide +kernel
theorem own_d7_84 : decode prog_15_method_6_code 84 = .ok (.iload_n 3, 1) := by decide +kernel
theorem own_d7_85 : decode prog_15_method_6_code 85 = .ok (.aload_n 0, 1) := by decide +kernel
theorem own_d7_86 : decode prog_15_method_6_code 86 = .ok (.getfield 25, 3) := by decide +kernel
theorem own_d7_89 : decode prog_15_method_6_code 89 = .ok (.iconst 0, 1) := by decide +kernel
theorem own_d7_90 : decode prog_15_method_6_code 90 = .ok (.iaload, 1) := by decide +kernel
theorem own_d7_91 : decode prog_15_method_6_code 91 = .ok (.invokevirtual 54, 3) := by decide +kernel
theorem own_d7_94 : decode prog_15_method_6_code 94 = .ok (.ifCond .eq 15, 3) := by decide +kernel
theorem own_d7_97 : decode prog_15_method_6_code 97 = .ok (.aload_n 0, 1) := by decide +kernel
theorem own_d7_98 : decode prog_15_method_6_code 98 = .ok (.getfield 25, 3) := by decide +kernel
theorem own_d7_101 : decode prog_15_method_6_code 101 = .ok (.iconst 0, 1) := by decide +kernel
theorem own_d7_102 : decode prog_15_method_6_code 102 = .ok (.iload_n 3, 1) := by decide +kernel
theorem own_d7_103 : decode prog_15_method_6_code 103 = .ok (.iastore, 1) := by decide +kernel
theorem own_d7_104 : decode prog_15_method_6_code 104 = .ok (.aload_n 0, 1) := by decide +kernel
theorem own_d7_105 : decode prog_15_method_6_code 105 = .ok (.iload_n 2, 1) := by decide +kernel
theorem own_d7_106 : decode prog_15_method_6_code 106 = .ok (.invokevirtual 58, 3) := by decide +kernel
set_option maxRecDepth 65536 in
set_option maxHeartbeats 40000000 in
theorem rm_take20 (l : Launch) (Z : State) (a0 : Array Value) (hw : ∀ d ∈ tables_1, d.before a0 Z = true) (ws : List Jvm.Cond) (o : Addr) (a1 : Addr) (a2 : Addr) (a3 : Addr) (a4 : Addr) (a5 : Addr) (k1 : ClassId) (k2 : ClassId) (k3 : ClassId) (k4 : ClassId) (k5 : ClassId) (c0 : Int32) (c1 : Int32) (c2 : Int32) (r0 : Int32) (r1 : Int32) (r2 : Int32) (p0 : Int32) (p1 : Int32) (p2 : Int32) (d0 : UInt64) (d1 : UInt64) (d2 : UInt64) (h0 : Heap) (n0 : Nat) (Z0 : n0 ≤ h0.size) (E0 : Exa Z h0 o "com/example/prizepath/prizepath/Insertions") (F1 : Fld Z h0 o "com/example/prizepath/prizepath/Insertions" "customers" "[I" (.ref a1)) (F2 : Fld Z h0 o "com/example/prizepath/prizepath/Insertions" "routes" "[I" (.ref a2)) (F3 : Fld Z h0 o "com/example/prizepath/prizepath/Insertions" "places" "[I" (.ref a3)) (F4 : Fld Z h0 o "com/example/prizepath/prizepath/Insertions" "ranks" "[D" (.ref a4)) (F5 : Fld Z h0 o "com/example/prizepath/prizepath/Insertions" "kept" "[I" (.ref a5)) (A1 : Arv Z h0 a1 k1 .int (256 : Int32) [(.int c0), (.int c1), (.int c2)] (.int (0 : Int32))) (A2 : Arv Z h0 a2 k2 .int (256 : Int32) [(.int r0), (.int r1), (.int r2)] (.int (0 : Int32))) (A3 : Arv Z h0 a3 k3 .int (256 : Int32) [(.int p0), (.int p1), (.int p2)] (.int (0 : Int32))) (A4 : Arv Z h0 a4 k4 .double (256 : Int32) [(.double d0), (.double d1), (.double d2)] (.double (0 : UInt64))) (A5 : Arv Z h0 a5 k5 .int (1 : Int32) [(.int (0 : Int32))] (.int (0 : Int32))) (FZ : Fld Z h0 o "com/example/prizepath/prizepath/Insertions" "size" "I" (.int (2 : Int32))) (g_o : n0 ≤ o) (g_a1 : n0 ≤ a1) (g_a2 : n0 ≤ a2) (g_a3 : n0 ≤ a3) (g_a4 : n0 ≤ a4) (g_a5 : n0 ≤ a5) (n_oa1 : o ≠ a1) (n_oa2 : o ≠ a2) (n_oa3 : o ≠ a3) (n_oa4 : o ≠ a4) (n_a1a2 : a1 ≠ a2) (n_a1a3 : a1 ≠ a3) (n_a1a4 : a1 ≠ a4) (n_a2a3 : a2 ≠ a3) (n_a2a4 : a2 ≠ a4) (n_a3a4 : a3 ≠ a4) (n_oa5 : o ≠ a5) (n_a1a5 : a1 ≠ a5) (n_a2a5 : a2 ≠ a5) (n_a3a5 : a3 ≠ a5) (n_a4a5 : a4 ≠ a5) (nd0 : cmpValue (FP.dcmp d0 d0) .l = 0) (nd1 : cmpValue (FP.dcmp d1 d1) .l = 0) (nd2 : cmpValue (FP.dcmp d2 d2) .l = 0) :
    MetFree l (⟨"com/example/prizepath/prizepath/Insertions", "take", "(I)Lcom/example/prizepath/prizepath/Insertions$Insertion;"⟩ : MethodName) (head1 (Jvm.Cond.code (⟨"com/example/prizepath/prizepath/Insertions", "take", "(I)Lcom/example/prizepath/prizepath/Insertions$Insertion;"⟩ : MethodName) prog_15_method_6_code 5 (some (.object "com/example/prizepath/prizepath/Insertions$Insertion")) :: ws) ({ frames := 5, cells := 2, slots := 4, locals := 100 } : Room)) (fun aa U => aa = #[(.ref o), (.int (0 : Int32))] ∧ Z.Warmed39 U.vm ∧ U.heap = h0) (fun _ _ _ _ _ => True) (fun _ U ou U' => ∃ v L, ou = .returned v ∧ Q_rm_take20 Z o a1 a2 a3 a4 a5 k1 k2 k3 k4 k5 c0 c1 c2 r0 r1 r2 p0 p1 p2 d0 d1 d2 h0 n0 v U'.heap L ∧ FrameEnd U ou U' L ({ frames := 5, cells := 2, slots := 4, locals := 100 } : Room).cells ({ frames := 5, cells := 2, slots := 4, locals := 100 } : Room).slots) := by
  refine MetFree.of_bodySF (plainFor_of_name own_pn2) hisR ?_
  intro p e s m args below meth c s₁ Bd hml0 hP hK
  obtain ⟨rfl, hZ, hh⟩ := hP
  have hx := Bd.exec
  have hby := Bd.bytes
  have hml : c.maxLocals = 5 := hml0
  have hown : s.vm.findClass "com/example/prizepath/prizepath/Insertions" = some m.cls := findClass_of_methodNamed Bd.named
  have hnm := (name_of_methodNamed Bd.named Bd.method).1
  have X0 : Stand p l e ({ frames := 5, cells := 2, slots := 4, locals := 100 } : Room) s m #[(.ref o), (.int (0 : Int32))] below meth c s₁ [] 0 0 := Stand.of_body Bd
  have e0 : s₁.heap = h0 := by rw [← hh, Bd.state]; rfl
  have N0 := Fr.nil n0
  have K0 := Keep.refl h0 [o, a1, a2, a3, a4, a5]
  show own_Go p e below (fun o u L => FrameEnd s o u L ({ frames := 5, cells := 2, slots := 4, locals := 100 } : Room).cells ({ frames := 5, cells := 2, slots := 4, locals := 100 } : Room).slots) (Q_rm_take20 Z o a1 a2 a3 a4 a5 k1 k2 k3 k4 k5 c0 c1 c2 r0 r1 r2 p0 p1 p2 d0 d1 d2 h0 n0) (s₁.setTop (entryFrame m #[(.ref o), (.int (0 : Int32))] 5))
  rw [own_ef_rm_take20 m o]
  show own_Go _ _ _ _ _ (State.setTop _ (mkF _ 0 #[.val (.ref o), .val (.int (0 : Int32)), .unset, .unset, .unset] []))
  refine own_iloadN X0 hx 1 rfl (hb hby own_d7_0) rfl ?_
  refine own_ifNo X0 hx 4 rfl (hb hby own_d7_1) (by decide) ?_
  refine own_iloadN X0 hx 5 rfl (hb hby own_d7_4) rfl ?_
  refine own_aloadN X0 hx 6 rfl (hb hby own_d7_5) rfl rfl ?_
  refine own_getF X0 hx hZ (host := "") hown (Or.inl (own_hw hw 26 rfl)) Via.refl e0 FZ 9 rfl (hb hby own_d7_6) fun T952 X952 e952 => ?_
  refine own_icmpYes X952 hx 30 (hb hby own_d7_9) (by decide) (by decide) rfl ?_
  refine own_aloadN X952 hx 31 rfl (hb hby own_d7_30) rfl rfl ?_
  refine own_getF X952 hx hZ (host := "") hown (Or.inl (own_hw hw 19 rfl)) Via.refl e952 F5 34 rfl (hb hby own_d7_31) fun T953 X953 e953 => ?_
  refine own_len X953 hx hZ e953 A5 35 rfl (hb hby own_d7_34) ?_
  refine own_iloadN X953 hx 36 rfl (hb hby own_d7_35) rfl ?_
  refine own_icmpYes X953 hx 48 (hb hby own_d7_36) (by decide) (by decide) rfl ?_
  refine own_iconst X953 hx 49 rfl (hb hby own_d7_48) (0 : Int32) rfl ?_
  refine own_istoreN X953 hx 50 rfl (hb hby own_d7_49) #[.val (.ref o), .val (.int (0 : Int32)), .val (.int (0 : Int32)), .unset, .unset] rfl ?_
  refine own_iconst X953 hx 51 rfl (hb hby own_d7_50) (0 : Int32) rfl ?_
  refine own_istoreN X953 hx 52 rfl (hb hby own_d7_51) #[.val (.ref o), .val (.int (0 : Int32)), .val (.int (0 : Int32)), .val (.int (0 : Int32)), .unset] rfl ?_
  refine own_iloadN X953 hx 53 rfl (hb hby own_d7_52) rfl ?_
  refine own_aloadN X953 hx 54 rfl (hb hby own_d7_53) rfl rfl ?_
  refine own_getF X953 hx hZ (host := "") hown (Or.inl (own_hw hw 26 rfl)) Via.refl e953 FZ 57 rfl (hb hby own_d7_54) fun T954 X954 e954 => ?_
  refine own_icmpNo X954 hx 60 rfl (hb hby own_d7_57) (by decide) ?_
  refine own_iloadN X954 hx 61 rfl (hb hby own_d7_60) rfl ?_
  refine own_iloadN X954 hx 62 rfl (hb hby own_d7_61) rfl ?_
  refine own_icmpNo X954 hx 65 rfl (hb hby own_d7_62) (by decide) ?_
  refine own_aloadN X954 hx 66 rfl (hb hby own_d7_65) rfl rfl ?_
  refine own_getF X954 hx hZ (host := "") hown (Or.inl (own_hw hw 19 rfl)) Via.refl e954 F5 69 rfl (hb hby own_d7_66) fun T955 X955 e955 => ?_
  refine own_iloadN X955 hx 70 rfl (hb hby own_d7_69) rfl ?_
  refine own_iloadN X955 hx 71 rfl (hb hby own_d7_70) rfl ?_
  refine own_stI X955 hx hZ e955 A5 ⟨by decide, by decide⟩ 0 rfl (Nat.le_of_ble_eq_true rfl) [(.int (0 : Int32))] rfl 72 rfl (hb hby own_d7_71) fun T956 h956 X956 e956 W956 f957 => ?_
  have f958 := E0.wr W956
  have f959 := F1.other W956 (Or.inl n_oa5)
  have f960 := F2.other W956 (Or.inl n_oa5)
  have f961 := F3.other W956 (Or.inl n_oa5)
  have f962 := F4.other W956 (Or.inl n_oa5)
  have f963 := F5.other W956 (Or.inl n_oa5)
  have f964 := A1.other W956 n_a1a5
  have f965 := A2.other W956 n_a2a5
  have f966 := A3.other W956 n_a3a5
  have f967 := A4.other W956 n_a4a5
  have f968 := FZ.other W956 (Or.inl n_oa5)
  have z969 := Nat.le_trans Z0 (Keep.of_wr W956).1
  have K970 := K0.wr W956 (Or.inl (List.mem_of_getElem? (i := 5) rfl))
  have N971 := Fr.snoc X956 N0 g_a5
  refine own_aloadN X956 hx 73 rfl (hb hby own_d7_72) rfl rfl ?_
  refine own_iloadN X956 hx 74 rfl (hb hby own_d7_73) rfl ?_
  refine own_private X956 hx hZ (y := (⟨"com/example/prizepath/prizepath/Insertions", "siftUp", "(I)V"⟩ : MethodName)) (z := (⟨"com/example/prizepath/prizepath/Insertions", "clear", "()V"⟩ : MethodName)) hown (own_hw hw 49 rfl) (own_hw hw 50 rfl) rfl (own_hw hw 24 rfl) (own_hw hw 51 rfl) (a := o) f958 (by decide) (rm_up0 l Z a0 hw [] o h956 n0 z969 ) (own_hw hw 52 rfl) (own_hw hw 2 rfl) (by decide) e956 (by rw [hml]; rfl) [(.int (0 : Int32))] 0 (by decide) (Nat.le_of_eq rfl) (by decide) (by decide) (lenOf own_pd7 rfl) rfl rfl 77 rfl (hb hby own_d7_74) fun v972 T972 Lc972 X972 hQ972 => ?_
  obtain ⟨rfl, Nq972, e972⟩ := hQ972
  have N973 := Fr.app N971 Nq972
  show own_Go _ _ _ _ _ (State.setTop _ (mkF _ 77 _ []))
  refine own_iinc X972 hx 80 rfl (hb hby own_d7_77) rfl #[.val (.ref o), .val (.int (0 : Int32)), .val (.int (1 : Int32)), .val (.int (0 : Int32)), .unset] rfl ?_
  refine own_goto X972 hx 109 (hb hby own_d7_80) (by decide) rfl ?_
  refine own_iinc X972 hx 112 rfl (hb hby own_d7_109) rfl #[.val (.ref o), .val (.int (0 : Int32)), .val (.int (1 : Int32)), .val (.int (1 : Int32)), .unset] rfl ?_
  refine own_goto X972 hx 52 (hb hby own_d7_112) (by decide) rfl ?_
  refine own_iloadN X972 hx 53 rfl (hb hby own_d7_52) rfl ?_
  refine own_aloadN X972 hx 54 rfl (hb hby own_d7_53) rfl rfl ?_
  refine own_getF X972 hx hZ (host := "") hown (Or.inl (own_hw hw 26 rfl)) Via.refl e972 f968 57 rfl (hb hby own_d7_54) fun T974 X974 e974 => ?_
  refine own_icmpNo X974 hx 60 rfl (hb hby own_d7_57) (by decide) ?_
  refine own_iloadN X974 hx 61 rfl (hb hby own_d7_60) rfl ?_
  refine own_iloadN X974 hx 62 rfl (hb hby own_d7_61) rfl ?_
  refine own_icmpYes X974 hx 83 (hb hby own_d7_62) (by decide) (by decide) rfl ?_
  refine own_aloadN X974 hx 84 rfl (hb hby own_d7_83) rfl rfl ?_
  refine own_iloadN X974 hx 85 rfl (hb hby own_d7_84) rfl ?_
  refine own_aloadN X974 hx 86 rfl (hb hby own_d7_85) rfl rfl ?_
  refine own_getF X974 hx hZ (host := "") hown (Or.inl (own_hw hw 19 rfl)) Via.refl e974 f963 89 rfl (hb hby own_d7_86) fun T975 X975 e975 => ?_
  refine own_iconst X975 hx 90 rfl (hb hby own_d7_89) (0 : Int32) rfl ?_
  refine own_ldI X975 hx hZ e975 f957 ⟨by decide, by decide⟩ (0 : Int32) rfl 91 rfl (hb hby own_d7_90) ?_
  refine own_private X975 hx hZ (y := (⟨"com/example/prizepath/prizepath/Insertions", "ranksBefore", "(II)Z"⟩ : MethodName)) (z := (⟨"com/example/prizepath/prizepath/Insertions", "clear", "()V"⟩ : MethodName)) hown (own_hw hw 75 rfl) (own_hw hw 76 rfl) rfl (own_hw hw 24 rfl) (own_hw hw 77 rfl) (a := o) f958 (by decide) (rm_rb l Z a0 hw [] o (1 : Int32) (0 : Int32) a1 a2 a3 a4 k1 k2 k3 k4 [(.int c0), (.int c1), (.int c2)] [(.int r0), (.int r1), (.int r2)] [(.int p0), (.int p1), (.int p2)] [(.double d0), (.double d1), (.double d2)] d1 d0 c1 c0 r1 r0 p1 p0 h956 n0 z969 f959 f960 f961 f962 f964 f965 f966 f967 ⟨by decide, by decide⟩ ⟨by decide, by decide⟩ rfl rfl rfl rfl rfl rfl rfl rfl nd1 nd0) (own_hw hw 78 rfl) (own_hw hw 2 rfl) (by decide) e975 (by rw [hml]; rfl) [(.int (1 : Int32)), (.int (0 : Int32))] 0 (by decide) (Nat.le_of_eq rfl) (by decide) (by decide) (lenOf own_pd4 rfl) rfl rfl 94 rfl (hb hby own_d7_91) fun v976 T976 Lc976 X976 hQ976 => ?_
  obtain ⟨z976, rfl, Nq976, e976, hz976⟩ := hQ976
  have N977 := Fr.app N973 Nq976
  rcases hz976 with rfl | rfl
  ·
    show own_Go _ _ _ _ _ (State.setTop _ (mkF _ 94 #[.val (.ref o), .val (.int (0 : Int32)), .val (.int (1 : Int32)), .val (.int (1 : Int32)), .unset] [(.int (0 : Int32))]))
    refine own_ifYes X976 hx 109 (hb hby own_d7_94) (by decide) (by decide) rfl ?_
    refine own_iinc X976 hx 112 rfl (hb hby own_d7_109) rfl #[.val (.ref o), .val (.int (0 : Int32)), .val (.int (1 : Int32)), .val (.int (2 : Int32)), .unset] rfl ?_
    refine own_goto X976 hx 52 (hb hby own_d7_112) (by decide) rfl ?_
    refine own_iloadN X976 hx 53 rfl (hb hby own_d7_52) rfl ?_
    refine own_aloadN X976 hx 54 rfl (hb hby own_d7_53) rfl rfl ?_
    refine own_getF X976 hx hZ (host := "") hown (Or.inl (own_hw hw 26 rfl)) Via.refl e976 f968 57 rfl (hb hby own_d7_54) fun T978 X978 e978 => ?_
    refine own_icmpYes X978 hx 115 (hb hby own_d7_57) (by decide) (by decide) rfl ?_
    refine own_aloadN X978 hx 116 rfl (hb hby own_d7_115) rfl rfl ?_
    refine own_getF X978 hx hZ (host := "") hown (Or.inl (own_hw hw 19 rfl)) Via.refl e978 f963 119 rfl (hb hby own_d7_116) fun T979 X979 e979 => ?_
    refine own_iconst X979 hx 120 rfl (hb hby own_d7_119) (0 : Int32) rfl ?_
    refine own_ldI X979 hx hZ e979 f957 ⟨by decide, by decide⟩ (0 : Int32) rfl 121 rfl (hb hby own_d7_120) ?_
    refine own_istoreN X979 hx 122 rfl (hb hby own_d7_121) #[.val (.ref o), .val (.int (0 : Int32)), .val (.int (1 : Int32)), .val (.int (0 : Int32)), .unset] rfl ?_
    refine own_new X979 hx hZ hown (own_hw hw 53 rfl) (own_hw hw 54 rfl) (own_hw hw 55 rfl) e979 125 rfl (hb hby own_d7_122) (by decide) (by decide) fun T980 h980 b980 g980 X980 e980 E980 A980 D980 => ?_
    have ne981 : o ≠ b980 := Nat.ne_of_lt (Nat.lt_of_lt_of_le f958.lt (Nat.le_of_eq g980.symm))
    have ne982 : a1 ≠ b980 := Nat.ne_of_lt (Nat.lt_of_lt_of_le f964.lt (Nat.le_of_eq g980.symm))
    have ne983 : a2 ≠ b980 := Nat.ne_of_lt (Nat.lt_of_lt_of_le f965.lt (Nat.le_of_eq g980.symm))
    have ne984 : a3 ≠ b980 := Nat.ne_of_lt (Nat.lt_of_lt_of_le f966.lt (Nat.le_of_eq g980.symm))
    have ne985 : a4 ≠ b980 := Nat.ne_of_lt (Nat.lt_of_lt_of_le f967.lt (Nat.le_of_eq g980.symm))
    have ne986 : a5 ≠ b980 := Nat.ne_of_lt (Nat.lt_of_lt_of_le f957.lt (Nat.le_of_eq g980.symm))
    have ge987 : n0 ≤ b980 := Nat.le_trans z969 (Nat.le_of_eq g980.symm)
    have sz988 : h0.size ≤ b980 := Nat.le_trans K970.1 (Nat.le_of_eq g980.symm)
    have f989 := f958.ext E980
    have f990 := f959.ext E980
    have f991 := f960.ext E980
    have f992 := f961.ext E980
    have f993 := f962.ext E980
    have f994 := f963.ext E980
    have f995 := f964.ext E980
    have f996 := f965.ext E980
    have f997 := f966.ext E980
    have f998 := f967.ext E980
    have f999 := f968.ext E980
    have f1000 := f957.ext E980
    have z1001 := Nat.le_trans z969 E980.1
    have K1002 := K970.ext E980
    have f1003 : Fld Z h980 b980 "com/example/prizepath/prizepath/Insertions$Insertion" "customer" "I" (.int (0 : Int32)) := D980 (Or.inr (own_hw hw 66 rfl)) (ty := .int) (by decide)
    have f1004 : Fld Z h980 b980 "com/example/prizepath/prizepath/Insertions$Insertion" "route" "I" (.int (0 : Int32)) := D980 (Or.inr (own_hw hw 68 rfl)) (ty := .int) (by decide)
    have f1005 : Fld Z h980 b980 "com/example/prizepath/prizepath/Insertions$Insertion" "place" "I" (.int (0 : Int32)) := D980 (Or.inr (own_hw hw 70 rfl)) (ty := .int) (by decide)
    refine own_dup X980 hx 126 rfl (hb hby own_d7_125) rfl ?_
    refine own_aloadN X980 hx 127 rfl (hb hby own_d7_126) rfl rfl ?_
    refine own_getF X980 hx hZ (host := "") hown (Or.inl (own_hw hw 10 rfl)) Via.refl e980 f990 130 rfl (hb hby own_d7_127) fun T1006 X1006 e1006 => ?_
    refine own_iloadN X1006 hx 131 rfl (hb hby own_d7_130) rfl ?_
    refine own_ldI X1006 hx hZ e1006 f995 ⟨by decide, by decide⟩ c0 rfl 132 rfl (hb hby own_d7_131) ?_
    refine own_aloadN X1006 hx 133 rfl (hb hby own_d7_132) rfl rfl ?_
    refine own_getF X1006 hx hZ (host := "") hown (Or.inl (own_hw hw 12 rfl)) Via.refl e1006 f991 136 rfl (hb hby own_d7_133) fun T1007 X1007 e1007 => ?_
    refine own_iloadN X1007 hx 137 rfl (hb hby own_d7_136) rfl ?_
    refine own_ldI X1007 hx hZ e1007 f996 ⟨by decide, by decide⟩ r0 rfl 138 rfl (hb hby own_d7_137) ?_
    refine own_aloadN X1007 hx 139 rfl (hb hby own_d7_138) rfl rfl ?_
    refine own_getF X1007 hx hZ (host := "") hown (Or.inl (own_hw hw 14 rfl)) Via.refl e1007 f992 142 rfl (hb hby own_d7_139) fun T1008 X1008 e1008 => ?_
    refine own_iloadN X1008 hx 143 rfl (hb hby own_d7_142) rfl ?_
    refine own_ldI X1008 hx hZ e1008 f997 ⟨by decide, by decide⟩ p0 rfl 144 rfl (hb hby own_d7_143) ?_
    refine own_special X1008 hx hZ (y := (⟨"com/example/prizepath/prizepath/Insertions$Insertion", "<init>", "(III)V"⟩ : MethodName)) hown rfl (own_hw hw 56 rfl) (own_hw hw 57 rfl) (a := b980) (by decide) rfl (rm_ins l Z a0 hw [] b980 c0 r0 p0 h980 n0 z1001 A980 f1003 f1004 f1005 ge987) (own_hw hw 58 rfl) (own_hw hw 55 rfl) (by decide) e1008 (by rw [hml]; rfl) [(.int c0), (.int r0), (.int p0)] 1 (by decide) (Nat.le_of_eq rfl) (by decide) (by decide) (lenOf own_pd8 rfl) rfl rfl 147 rfl (hb hby own_d7_144) fun v1009 T1009 Lc1009 X1009 hQ1009 => ?_
    obtain ⟨rfl, Nq1009, Kq1009, f1010, f1011, f1012, f1013⟩ := hQ1009
    have N1014 := Fr.app N977 Nq1009
    have f1015 := f989.keep Kq1009
    have f1016 := f990.keep Kq1009 (ninS ne981 nin0)
    have f1017 := f991.keep Kq1009 (ninS ne981 nin0)
    have f1018 := f992.keep Kq1009 (ninS ne981 nin0)
    have f1019 := f993.keep Kq1009 (ninS ne981 nin0)
    have f1020 := f994.keep Kq1009 (ninS ne981 nin0)
    have f1021 := f995.keep Kq1009 (ninS ne982 nin0)
    have f1022 := f996.keep Kq1009 (ninS ne983 nin0)
    have f1023 := f997.keep Kq1009 (ninS ne984 nin0)
    have f1024 := f998.keep Kq1009 (ninS ne985 nin0)
    have f1025 := f999.keep Kq1009 (ninS ne981 nin0)
    have f1026 := f1000.keep Kq1009 (ninS ne986 nin0)
    have f1027 := A980.keep Kq1009
    have z1031 := Nat.le_trans z1001 Kq1009.1
    have K1032 := K1002.trans Kq1009 (allS (Or.inr sz988) all0)
    show own_Go _ _ _ _ _ (State.setTop _ (mkF _ 147 _ [(.ref b980)]))
    refine own_astore X1009 hx 149 rfl (hb hby own_d7_147) rfl #[.val (.ref o), .val (.int (0 : Int32)), .val (.int (1 : Int32)), .val (.int (0 : Int32)), .val (.ref b980)] rfl ?_
    refine own_aloadN X1009 hx 150 rfl (hb hby own_d7_149) rfl rfl ?_
    refine own_iloadN X1009 hx 151 rfl (hb hby own_d7_150) rfl ?_
    refine own_private X1009 hx hZ (y := (⟨"com/example/prizepath/prizepath/Insertions", "moveLastTo", "(I)V"⟩ : MethodName)) (z := (⟨"com/example/prizepath/prizepath/Insertions", "clear", "()V"⟩ : MethodName)) hown (own_hw hw 71 rfl) (own_hw hw 72 rfl) rfl (own_hw hw 24 rfl) (own_hw hw 73 rfl) (a := o) f1015 (by decide) (rm_mv20 l Z a0 hw [] o a1 a2 a3 a4 k1 k2 k3 k4 c0 c1 c2 r0 r1 r2 p0 p1 p2 d0 d1 d2 T1009.heap n0 z1031 f1015 f1016 f1017 f1018 f1019 f1021 f1022 f1023 f1024 f1025 g_o g_a1 g_a2 g_a3 g_a4 n_oa1 n_oa2 n_oa3 n_oa4 n_a1a2 n_a1a3 n_a1a4 n_a2a3 n_a2a4 n_a3a4) (own_hw hw 74 rfl) (own_hw hw 2 rfl) (by decide) rfl (by rw [hml]; rfl) [(.int (0 : Int32))] 0 (by decide) (Nat.le_of_eq rfl) (by decide) (by decide) (lenOf own_pd7 rfl) rfl rfl 154 rfl (hb hby own_d7_151) fun v1033 T1033 Lc1033 X1033 hQ1033 => ?_
    obtain ⟨rfl, Nq1033, Kq1033, f1034⟩ := hQ1033
    have N1035 := Fr.app N1014 Nq1033
    have f1036 := f1015.keep Kq1033
    have f1047 := f1026.keep Kq1033 (ninS (Ne.symm n_oa5) (ninS (Ne.symm n_a1a5) (ninS (Ne.symm n_a2a5) (ninS (Ne.symm n_a3a5) (ninS (Ne.symm n_a4a5) nin0)))))
    have f1048 := f1010.keep Kq1033
    have f1049 := f1011.keep Kq1033 (ninS (Ne.symm ne981) (ninS (Ne.symm ne982) (ninS (Ne.symm ne983) (ninS (Ne.symm ne984) (ninS (Ne.symm ne985) nin0)))))
    have f1050 := f1012.keep Kq1033 (ninS (Ne.symm ne981) (ninS (Ne.symm ne982) (ninS (Ne.symm ne983) (ninS (Ne.symm ne984) (ninS (Ne.symm ne985) nin0)))))
    have f1051 := f1013.keep Kq1033 (ninS (Ne.symm ne981) (ninS (Ne.symm ne982) (ninS (Ne.symm ne983) (ninS (Ne.symm ne984) (ninS (Ne.symm ne985) nin0)))))
    have z1052 := Nat.le_trans z1031 Kq1033.1
    have K1053 := K1032.trans Kq1033 (allS (Or.inl (List.mem_of_getElem? (i := 0) rfl)) (allS (Or.inl (List.mem_of_getElem? (i := 1) rfl)) (allS (Or.inl (List.mem_of_getElem? (i := 2) rfl)) (allS (Or.inl (List.mem_of_getElem? (i := 3) rfl)) (allS (Or.inl (List.mem_of_getElem? (i := 4) rfl)) all0)))))
    show own_Go _ _ _ _ _ (State.setTop _ (mkF _ 154 _ []))
    refine own_aload X1033 hx 156 rfl (hb hby own_d7_154) rfl rfl ?_
    refine own_ret X1033 (some (.ref b980)) (fun h => by rw [Bd.returns] at h; cases h) Bd.notSynchronized (by decide) (by decide) ?_ (fun fs hr => own_retR X1033 hx Bd.returns rfl rfl (hb hby own_d7_156) hr)
    show Q_rm_take20 Z o a1 a2 a3 a4 a5 k1 k2 k3 k4 k5 c0 c1 c2 r0 r1 r2 p0 p1 p2 d0 d1 d2 h0 n0 _ T1033.heap _
    exact ⟨_, rfl, N1035, K1053, f1034⟩
  ·
    show own_Go _ _ _ _ _ (State.setTop _ (mkF _ 94 #[.val (.ref o), .val (.int (0 : Int32)), .val (.int (1 : Int32)), .val (.int (1 : Int32)), .unset] [(.int (1 : Int32))]))
    refine own_ifNo X976 hx 97 rfl (hb hby own_d7_94) (by decide) ?_
    refine own_aloadN X976 hx 98 rfl (hb hby own_d7_97) rfl rfl ?_
    refine own_getF X976 hx hZ (host := "") hown (Or.inl (own_hw hw 19 rfl)) Via.refl e976 f963 101 rfl (hb hby own_d7_98) fun T1054 X1054 e1054 => ?_
    refine own_iconst X1054 hx 102 rfl (hb hby own_d7_101) (0 : Int32) rfl ?_
    refine own_iloadN X1054 hx 103 rfl (hb hby own_d7_102) rfl ?_
    refine own_stI X1054 hx hZ e1054 f957 ⟨by decide, by decide⟩ 0 rfl (Nat.le_of_ble_eq_true rfl) [(.int (1 : Int32))] rfl 104 rfl (hb hby own_d7_103) fun T1055 h1055 X1055 e1055 W1055 f1056 => ?_
    have f1057 := f958.wr W1055
    have f1058 := f959.other W1055 (Or.inl n_oa5)
    have f1059 := f960.other W1055 (Or.inl n_oa5)
    have f1060 := f961.other W1055 (Or.inl n_oa5)
    have f1061 := f962.other W1055 (Or.inl n_oa5)
    have f1062 := f963.other W1055 (Or.inl n_oa5)
    have f1063 := f964.other W1055 n_a1a5
    have f1064 := f965.other W1055 n_a2a5
    have f1065 := f966.other W1055 n_a3a5
    have f1066 := f967.other W1055 n_a4a5
    have f1067 := f968.other W1055 (Or.inl n_oa5)
    have z1068 := Nat.le_trans z969 (Keep.of_wr W1055).1
    have K1069 := K970.wr W1055 (Or.inl (List.mem_of_getElem? (i := 5) rfl))
    have N1070 := Fr.snoc X1055 N977 g_a5
    refine own_aloadN X1055 hx 105 rfl (hb hby own_d7_104) rfl rfl ?_
    refine own_iloadN X1055 hx 106 rfl (hb hby own_d7_105) rfl ?_
    refine own_private X1055 hx hZ (y := (⟨"com/example/prizepath/prizepath/Insertions", "siftDown", "(I)V"⟩ : MethodName)) (z := (⟨"com/example/prizepath/prizepath/Insertions", "clear", "()V"⟩ : MethodName)) hown (own_hw hw 87 rfl) (own_hw hw 88 rfl) rfl (own_hw hw 24 rfl) (own_hw hw 89 rfl) (a := o) f1057 (by decide) (rm_dn1 l Z a0 hw [] o h1055 n0 z1068 ) (own_hw hw 90 rfl) (own_hw hw 2 rfl) (by decide) e1055 (by rw [hml]; rfl) [(.int (1 : Int32))] 0 (by decide) (Nat.le_of_eq rfl) (by decide) (by decide) (lenOf own_pd7 rfl) rfl rfl 109 rfl (hb hby own_d7_106) fun v1071 T1071 Lc1071 X1071 hQ1071 => ?_
    obtain ⟨rfl, Nq1071, e1071⟩ := hQ1071
    have N1072 := Fr.app N1070 Nq1071
    show own_Go _ _ _ _ _ (State.setTop _ (mkF _ 109 _ []))
    refine own_iinc X1071 hx 112 rfl (hb hby own_d7_109) rfl #[.val (.ref o), .val (.int (0 : Int32)), .val (.int (1 : Int32)), .val (.int (2 : Int32)), .unset] rfl ?_
    refine own_goto X1071 hx 52 (hb hby own_d7_112) (by decide) rfl ?_
    refine own_iloadN X1071 hx 53 rfl (hb hby own_d7_52) rfl ?_
    refine own_aloadN X1071 hx 54 rfl (hb hby own_d7_53) rfl rfl ?_
    refine own_getF X1071 hx hZ (host := "") hown (Or.inl (own_hw hw 26 rfl)) Via.refl e1071 f1067 57 rfl (hb hby own_d7_54) fun T1073 X1073 e1073 => ?_
    refine own_icmpYes X1073 hx 115 (hb hby own_d7_57) (by decide) (by decide) rfl ?_
    refine own_aloadN X1073 hx 116 rfl (hb hby own_d7_115) rfl rfl ?_
    refine own_getF X1073 hx hZ (host := "") hown (Or.inl (own_hw hw 19 rfl)) Via.refl e1073 f1062 119 rfl (hb hby own_d7_116) fun T1074 X1074 e1074 => ?_
    refine own_iconst X1074 hx 120 rfl (hb hby own_d7_119) (0 : Int32) rfl ?_
    refine own_ldI X1074 hx hZ e1074 f1056 ⟨by decide, by decide⟩ (1 : Int32) rfl 121 rfl (hb hby own_d7_120) ?_
    refine own_istoreN X1074 hx 122 rfl (hb hby own_d7_121) #[.val (.ref o), .val (.int (0 : Int32)), .val (.int (1 : Int32)), .val (.int (1 : Int32)), .unset] rfl ?_
    refine own_new X1074 hx hZ hown (own_hw hw 53 rfl) (own_hw hw 54 rfl) (own_hw hw 55 rfl) e1074 125 rfl (hb hby own_d7_122) (by decide) (by decide) fun T1075 h1075 b1075 g1075 X1075 e1075 E1075 A1075 D1075 => ?_
    have ne1076 : o ≠ b1075 := Nat.ne_of_lt (Nat.lt_of_lt_of_le f1057.lt (Nat.le_of_eq g1075.symm))
    have ne1077 : a1 ≠ b1075 := Nat.ne_of_lt (Nat.lt_of_lt_of_le f1063.lt (Nat.le_of_eq g1075.symm))
    have ne1078 : a2 ≠ b1075 := Nat.ne_of_lt (Nat.lt_of_lt_of_le f1064.lt (Nat.le_of_eq g1075.symm))
    have ne1079 : a3 ≠ b1075 := Nat.ne_of_lt (Nat.lt_of_lt_of_le f1065.lt (Nat.le_of_eq g1075.symm))
    have ne1080 : a4 ≠ b1075 := Nat.ne_of_lt (Nat.lt_of_lt_of_le f1066.lt (Nat.le_of_eq g1075.symm))
    have ne1081 : a5 ≠ b1075 := Nat.ne_of_lt (Nat.lt_of_lt_of_le f1056.lt (Nat.le_of_eq g1075.symm))
    have ge1082 : n0 ≤ b1075 := Nat.le_trans z1068 (Nat.le_of_eq g1075.symm)
    have sz1083 : h0.size ≤ b1075 := Nat.le_trans K1069.1 (Nat.le_of_eq g1075.symm)
    have f1084 := f1057.ext E1075
    have f1085 := f1058.ext E1075
    have f1086 := f1059.ext E1075
    have f1087 := f1060.ext E1075
    have f1088 := f1061.ext E1075
    have f1089 := f1062.ext E1075
    have f1090 := f1063.ext E1075
    have f1091 := f1064.ext E1075
    have f1092 := f1065.ext E1075
    have f1093 := f1066.ext E1075
    have f1094 := f1067.ext E1075
    have f1095 := f1056.ext E1075
    have z1096 := Nat.le_trans z1068 E1075.1
    have K1097 := K1069.ext E1075
    have f1098 : Fld Z h1075 b1075 "com/example/prizepath/prizepath/Insertions$Insertion" "customer" "I" (.int (0 : Int32)) := D1075 (Or.inr (own_hw hw 66 rfl)) (ty := .int) (by decide)
    have f1099 : Fld Z h1075 b1075 "com/example/prizepath/prizepath/Insertions$Insertion" "route" "I" (.int (0 : Int32)) := D1075 (Or.inr (own_hw hw 68 rfl)) (ty := .int) (by decide)
    have f1100 : Fld Z h1075 b1075 "com/example/prizepath/prizepath/Insertions$Insertion" "place" "I" (.int (0 : Int32)) := D1075 (Or.inr (own_hw hw 70 rfl)) (ty := .int) (by decide)
    refine own_dup X1075 hx 126 rfl (hb hby own_d7_125) rfl ?_
    refine own_aloadN X1075 hx 127 rfl (hb hby own_d7_126) rfl rfl ?_
    refine own_getF X1075 hx hZ (host := "") hown (Or.inl (own_hw hw 10 rfl)) Via.refl e1075 f1085 130 rfl (hb hby own_d7_127) fun T1101 X1101 e1101 => ?_
    refine own_iloadN X1101 hx 131 rfl (hb hby own_d7_130) rfl ?_
    refine own_ldI X1101 hx hZ e1101 f1090 ⟨by decide, by decide⟩ c1 rfl 132 rfl (hb hby own_d7_131) ?_
    refine own_aloadN X1101 hx 133 rfl (hb hby own_d7_132) rfl rfl ?_
    refine own_getF X1101 hx hZ (host := "") hown (Or.inl (own_hw hw 12 rfl)) Via.refl e1101 f1086 136 rfl (hb hby own_d7_133) fun T1102 X1102 e1102 => ?_
    refine own_iloadN X1102 hx 137 rfl (hb hby own_d7_136) rfl ?_
    refine own_ldI X1102 hx hZ e1102 f1091 ⟨by decide, by decide⟩ r1 rfl 138 rfl (hb hby own_d7_137) ?_
    refine own_aloadN X1102 hx 139 rfl (hb hby own_d7_138) rfl rfl ?_
    refine own_getF X1102 hx hZ (host := "") hown (Or.inl (own_hw hw 14 rfl)) Via.refl e1102 f1087 142 rfl (hb hby own_d7_139) fun T1103 X1103 e1103 => ?_
    refine own_iloadN X1103 hx 143 rfl (hb hby own_d7_142) rfl ?_
    refine own_ldI X1103 hx hZ e1103 f1092 ⟨by decide, by decide⟩ p1 rfl 144 rfl (hb hby own_d7_143) ?_
    refine own_special X1103 hx hZ (y := (⟨"com/example/prizepath/prizepath/Insertions$Insertion", "<init>", "(III)V"⟩ : MethodName)) hown rfl (own_hw hw 56 rfl) (own_hw hw 57 rfl) (a := b1075) (by decide) rfl (rm_ins l Z a0 hw [] b1075 c1 r1 p1 h1075 n0 z1096 A1075 f1098 f1099 f1100 ge1082) (own_hw hw 58 rfl) (own_hw hw 55 rfl) (by decide) e1103 (by rw [hml]; rfl) [(.int c1), (.int r1), (.int p1)] 1 (by decide) (Nat.le_of_eq rfl) (by decide) (by decide) (lenOf own_pd8 rfl) rfl rfl 147 rfl (hb hby own_d7_144) fun v1104 T1104 Lc1104 X1104 hQ1104 => ?_
    obtain ⟨rfl, Nq1104, Kq1104, f1105, f1106, f1107, f1108⟩ := hQ1104
    have N1109 := Fr.app N1072 Nq1104
    have f1110 := f1084.keep Kq1104
    have f1111 := f1085.keep Kq1104 (ninS ne1076 nin0)
    have f1112 := f1086.keep Kq1104 (ninS ne1076 nin0)
    have f1113 := f1087.keep Kq1104 (ninS ne1076 nin0)
    have f1114 := f1088.keep Kq1104 (ninS ne1076 nin0)
    have f1115 := f1089.keep Kq1104 (ninS ne1076 nin0)
    have f1116 := f1090.keep Kq1104 (ninS ne1077 nin0)
    have f1117 := f1091.keep Kq1104 (ninS ne1078 nin0)
    have f1118 := f1092.keep Kq1104 (ninS ne1079 nin0)
    have f1119 := f1093.keep Kq1104 (ninS ne1080 nin0)
    have f1120 := f1094.keep Kq1104 (ninS ne1076 nin0)
    have f1121 := f1095.keep Kq1104 (ninS ne1081 nin0)
    have f1122 := A1075.keep Kq1104
    have z1126 := Nat.le_trans z1096 Kq1104.1
    have K1127 := K1097.trans Kq1104 (allS (Or.inr sz1083) all0)
    show own_Go _ _ _ _ _ (State.setTop _ (mkF _ 147 _ [(.ref b1075)]))
    refine own_astore X1104 hx 149 rfl (hb hby own_d7_147) rfl #[.val (.ref o), .val (.int (0 : Int32)), .val (.int (1 : Int32)), .val (.int (1 : Int32)), .val (.ref b1075)] rfl ?_
    refine own_aloadN X1104 hx 150 rfl (hb hby own_d7_149) rfl rfl ?_
    refine own_iloadN X1104 hx 151 rfl (hb hby own_d7_150) rfl ?_
    refine own_private X1104 hx hZ (y := (⟨"com/example/prizepath/prizepath/Insertions", "moveLastTo", "(I)V"⟩ : MethodName)) (z := (⟨"com/example/prizepath/prizepath/Insertions", "clear", "()V"⟩ : MethodName)) hown (own_hw hw 71 rfl) (own_hw hw 72 rfl) rfl (own_hw hw 24 rfl) (own_hw hw 73 rfl) (a := o) f1110 (by decide) (rm_mv21 l Z a0 hw [] o a1 a2 a3 a4 k1 k2 k3 k4 c0 c1 c2 r0 r1 r2 p0 p1 p2 d0 d1 d2 T1104.heap n0 z1126 f1110 f1111 f1112 f1113 f1114 f1116 f1117 f1118 f1119 f1120 g_o g_a1 g_a2 g_a3 g_a4 n_oa1 n_oa2 n_oa3 n_oa4 n_a1a2 n_a1a3 n_a1a4 n_a2a3 n_a2a4 n_a3a4) (own_hw hw 74 rfl) (own_hw hw 2 rfl) (by decide) rfl (by rw [hml]; rfl) [(.int (1 : Int32))] 0 (by decide) (Nat.le_of_eq rfl) (by decide) (by decide) (lenOf own_pd7 rfl) rfl rfl 154 rfl (hb hby own_d7_151) fun v1128 T1128 Lc1128 X1128 hQ1128 => ?_
    obtain ⟨rfl, Nq1128, Kq1128, f1129⟩ := hQ1128
    have N1130 := Fr.app N1109 Nq1128
    have f1131 := f1110.keep Kq1128
    have f1142 := f1121.keep Kq1128 (ninS (Ne.symm n_oa5) (ninS (Ne.symm n_a1a5) (ninS (Ne.symm n_a2a5) (ninS (Ne.symm n_a3a5) (ninS (Ne.symm n_a4a5) nin0)))))
    have f1143 := f1105.keep Kq1128
    have f1144 := f1106.keep Kq1128 (ninS (Ne.symm ne1076) (ninS (Ne.symm ne1077) (ninS (Ne.symm ne1078) (ninS (Ne.symm ne1079) (ninS (Ne.symm ne1080) nin0)))))
    have f1145 := f1107.keep Kq1128 (ninS (Ne.symm ne1076) (ninS (Ne.symm ne1077) (ninS (Ne.symm ne1078) (ninS (Ne.symm ne1079) (ninS (Ne.symm ne1080) nin0)))))
    have f1146 := f1108.keep Kq1128 (ninS (Ne.symm ne1076) (ninS (Ne.symm ne1077) (ninS (Ne.symm ne1078) (ninS (Ne.symm ne1079) (ninS (Ne.symm ne1080) nin0)))))
    have z1147 := Nat.le_trans z1126 Kq1128.1
    have K1148 := K1127.trans Kq1128 (allS (Or.inl (List.mem_of_getElem? (i := 0) rfl)) (allS (Or.inl (List.mem_of_getElem? (i := 1) rfl)) (allS (Or.inl (List.mem_of_getElem? (i := 2) rfl)) (allS (Or.inl (List.mem_of_getElem? (i := 3) rfl)) (allS (Or.inl (List.mem_of_getElem? (i := 4) rfl)) all0)))))
    show own_Go _ _ _ _ _ (State.setTop _ (mkF _ 154 _ []))
    refine own_aload X1128 hx 156 rfl (hb hby own_d7_154) rfl rfl ?_
    refine own_ret X1128 (some (.ref b1075)) (fun h => by rw [Bd.returns] at h; cases h) Bd.notSynchronized (by decide) (by decide) ?_ (fun fs hr => own_retR X1128 hx Bd.returns rfl rfl (hb hby own_d7_156) hr)
    show Q_rm_take20 Z o a1 a2 a3 a4 a5 k1 k2 k3 k4 k5 c0 c1 c2 r0 r1 r2 p0 p1 p2 d0 d1 d2 h0 n0 _ T1128.heap _
    exact ⟨_, rfl, N1130, K1148, f1129⟩
theorem own_ef_rm_take21 (m : MethodId) (o : Addr) : entryFrame m #[(.ref o), (.int (1 : Int32))] 5 = mkF m 0 #[.val (.ref o), .val (.int (1 : Int32)), .unset, .unset, .unset] [] := by first | (simp [entryFrame, mkF, argsToLocals, Value.category]; done) | rfl
def Q_rm_take21 (Z : State) (o : Addr) (a1 : Addr) (a2 : Addr) (a3 : Addr) (a4 : Addr) (a5 : Addr) (k1 : ClassId) (k2 : ClassId) (k3 : ClassId) (k4 : ClassId) (k5 : ClassId) (c0 : Int32) (c1 : Int32) (c2 : Int32) (r0 : Int32) (r1 : Int32) (r2 : Int32) (p0 : Int32) (p1 : Int32) (p2 : Int32) (d0 : UInt64) (d1 : UInt64) (d2 : UInt64) (h0 : Heap) (n0 : Nat) (v : Option Value) (h : Heap) (L : List Loc) : Prop := ∃ b : Addr, v = some (.ref b) ∧ Fr n0 L ∧ Keep h0 h [o, a1, a2, a3, a4, a5] ∧ Fld Z h o "com/example/prizepath/prizepath/Insertions" "size" "I" (.int (1 : Int32))
theorem own_d7_39 : decode prog_15_method_6_code 39 = .ok (.aload_n 0, 1) := by decide +kernel
theorem own_d7_40 : decode prog_15_method_6_code 40 = .ok (.iload_n 1, 1) := by decide +kernel
theorem own_d7_41 : decode prog_15_method_6_code 41 = .ok (.iconst 1, 1) := by decide +kernel
theorem own_d7_42 : decode prog_15_method_6_code 42 = .ok (.iadd, 1) := by decide +kernel
theorem own_d7_43 : decode prog_15_method_6_code 43 = .ok (.newarray .int, 2) := by decide +kernel
theorem own_d7_45 : decode prog_15_method_6_code 45 = .ok (.putfield 25, 3) := by decide +kernel
set_option maxRecDepth 65536 in
set_option maxHeartbeats 40000000 in
theorem rm_take21 (l : Launch) (Z : State) (a0 : Array Value) (hw : ∀ d ∈ tables_1, d.before a0 Z = true) (ws : List Jvm.Cond) (o : Addr) (a1 : Addr) (a2 : Addr) (a3 : Addr) (a4 : Addr) (a5 : Addr) (k1 : ClassId) (k2 : ClassId) (k3 : ClassId) (k4 : ClassId) (k5 : ClassId) (c0 : Int32) (c1 : Int32) (c2 : Int32) (r0 : Int32) (r1 : Int32) (r2 : Int32) (p0 : Int32) (p1 : Int32) (p2 : Int32) (d0 : UInt64) (d1 : UInt64) (d2 : UInt64) (h0 : Heap) (n0 : Nat) (Z0 : n0 ≤ h0.size) (E0 : Exa Z h0 o "com/example/prizepath/prizepath/Insertions") (F1 : Fld Z h0 o "com/example/prizepath/prizepath/Insertions" "customers" "[I" (.ref a1)) (F2 : Fld Z h0 o "com/example/prizepath/prizepath/Insertions" "routes" "[I" (.ref a2)) (F3 : Fld Z h0 o "com/example/prizepath/prizepath/Insertions" "places" "[I" (.ref a3)) (F4 : Fld Z h0 o "com/example/prizepath/prizepath/Insertions" "ranks" "[D" (.ref a4)) (F5 : Fld Z h0 o "com/example/prizepath/prizepath/Insertions" "kept" "[I" (.ref a5)) (A1 : Arv Z h0 a1 k1 .int (256 : Int32) [(.int c0), (.int c1), (.int c2)] (.int (0 : Int32))) (A2 : Arv Z h0 a2 k2 .int (256 : Int32) [(.int r0), (.int r1), (.int r2)] (.int (0 : Int32))) (A3 : Arv Z h0 a3 k3 .int (256 : Int32) [(.int p0), (.int p1), (.int p2)] (.int (0 : Int32))) (A4 : Arv Z h0 a4 k4 .double (256 : Int32) [(.double d0), (.double d1), (.double d2)] (.double (0 : UInt64))) (A5 : Arv Z h0 a5 k5 .int (1 : Int32) [(.int (0 : Int32))] (.int (0 : Int32))) (FZ : Fld Z h0 o "com/example/prizepath/prizepath/Insertions" "size" "I" (.int (2 : Int32))) (g_o : n0 ≤ o) (g_a1 : n0 ≤ a1) (g_a2 : n0 ≤ a2) (g_a3 : n0 ≤ a3) (g_a4 : n0 ≤ a4) (g_a5 : n0 ≤ a5) (n_oa1 : o ≠ a1) (n_oa2 : o ≠ a2) (n_oa3 : o ≠ a3) (n_oa4 : o ≠ a4) (n_a1a2 : a1 ≠ a2) (n_a1a3 : a1 ≠ a3) (n_a1a4 : a1 ≠ a4) (n_a2a3 : a2 ≠ a3) (n_a2a4 : a2 ≠ a4) (n_a3a4 : a3 ≠ a4) (n_oa5 : o ≠ a5) (n_a1a5 : a1 ≠ a5) (n_a2a5 : a2 ≠ a5) (n_a3a5 : a3 ≠ a5) (n_a4a5 : a4 ≠ a5) (nd0 : cmpValue (FP.dcmp d0 d0) .l = 0) (nd1 : cmpValue (FP.dcmp d1 d1) .l = 0) (nd2 : cmpValue (FP.dcmp d2 d2) .l = 0) :
    MetFree l (⟨"com/example/prizepath/prizepath/Insertions", "take", "(I)Lcom/example/prizepath/prizepath/Insertions$Insertion;"⟩ : MethodName) (head1 (Jvm.Cond.code (⟨"com/example/prizepath/prizepath/Insertions", "take", "(I)Lcom/example/prizepath/prizepath/Insertions$Insertion;"⟩ : MethodName) prog_15_method_6_code 5 (some (.object "com/example/prizepath/prizepath/Insertions$Insertion")) :: ws) ({ frames := 5, cells := 2, slots := 5, locals := 100 } : Room)) (fun aa U => aa = #[(.ref o), (.int (1 : Int32))] ∧ Z.Warmed39 U.vm ∧ U.heap = h0) (fun _ _ _ _ _ => True) (fun _ U ou U' => ∃ v L, ou = .returned v ∧ Q_rm_take21 Z o a1 a2 a3 a4 a5 k1 k2 k3 k4 k5 c0 c1 c2 r0 r1 r2 p0 p1 p2 d0 d1 d2 h0 n0 v U'.heap L ∧ FrameEnd U ou U' L ({ frames := 5, cells := 2, slots := 5, locals := 100 } : Room).cells ({ frames := 5, cells := 2, slots := 5, locals := 100 } : Room).slots) := by
  refine MetFree.of_bodySF (plainFor_of_name own_pn2) hisR ?_
  intro p e s m args below meth c s₁ Bd hml0 hP hK
  obtain ⟨rfl, hZ, hh⟩ := hP
  have hx := Bd.exec
  have hby := Bd.bytes
  have hml : c.maxLocals = 5 := hml0
  have hown : s.vm.findClass "com/example/prizepath/prizepath/Insertions" = some m.cls := findClass_of_methodNamed Bd.named
  have hnm := (name_of_methodNamed Bd.named Bd.method).1
  have X0 : Stand p l e ({ frames := 5, cells := 2, slots := 5, locals := 100 } : Room) s m #[(.ref o), (.int (1 : Int32))] below meth c s₁ [] 0 0 := Stand.of_body Bd
  have e0 : s₁.heap = h0 := by rw [← hh, Bd.state]; rfl
  have N0 := Fr.nil n0
  have K0 := Keep.refl h0 [o, a1, a2, a3, a4, a5]
  show own_Go p e below (fun o u L => FrameEnd s o u L ({ frames := 5, cells := 2, slots := 5, locals := 100 } : Room).cells ({ frames := 5, cells := 2, slots := 5, locals := 100 } : Room).slots) (Q_rm_take21 Z o a1 a2 a3 a4 a5 k1 k2 k3 k4 k5 c0 c1 c2 r0 r1 r2 p0 p1 p2 d0 d1 d2 h0 n0) (s₁.setTop (entryFrame m #[(.ref o), (.int (1 : Int32))] 5))
  rw [own_ef_rm_take21 m o]
  show own_Go _ _ _ _ _ (State.setTop _ (mkF _ 0 #[.val (.ref o), .val (.int (1 : Int32)), .unset, .unset, .unset] []))
  refine own_iloadN X0 hx 1 rfl (hb hby own_d7_0) rfl ?_
  refine own_ifNo X0 hx 4 rfl (hb hby own_d7_1) (by decide) ?_
  refine own_iloadN X0 hx 5 rfl (hb hby own_d7_4) rfl ?_
  refine own_aloadN X0 hx 6 rfl (hb hby own_d7_5) rfl rfl ?_
  refine own_getF X0 hx hZ (host := "") hown (Or.inl (own_hw hw 26 rfl)) Via.refl e0 FZ 9 rfl (hb hby own_d7_6) fun T1149 X1149 e1149 => ?_
  refine own_icmpYes X1149 hx 30 (hb hby own_d7_9) (by decide) (by decide) rfl ?_
  refine own_aloadN X1149 hx 31 rfl (hb hby own_d7_30) rfl rfl ?_
  refine own_getF X1149 hx hZ (host := "") hown (Or.inl (own_hw hw 19 rfl)) Via.refl e1149 F5 34 rfl (hb hby own_d7_31) fun T1150 X1150 e1150 => ?_
  refine own_len X1150 hx hZ e1150 A5 35 rfl (hb hby own_d7_34) ?_
  refine own_iloadN X1150 hx 36 rfl (hb hby own_d7_35) rfl ?_
  refine own_icmpNo X1150 hx 39 rfl (hb hby own_d7_36) (by decide) ?_
  refine own_aloadN X1150 hx 40 rfl (hb hby own_d7_39) rfl rfl ?_
  refine own_iloadN X1150 hx 41 rfl (hb hby own_d7_40) rfl ?_
  refine own_iconst X1150 hx 42 rfl (hb hby own_d7_41) (1 : Int32) rfl ?_
  refine own_iadd X1150 hx 43 rfl (hb hby own_d7_42) (2 : Int32) rfl ?_
  refine own_newA X1150 hx hZ (own_hw hw 9 rfl) e1150 45 rfl (hb hby own_d7_43) (by decide) 2 (by decide) (by decide) (by decide) (by decide) "[I" (by decide) fun T1151 h1151 k1151 b1151 g1151 X1151 e1151 E1151 A1151 C1151 => ?_
  have ne1152 : o ≠ b1151 := Nat.ne_of_lt (Nat.lt_of_lt_of_le E0.lt (Nat.le_of_eq g1151.symm))
  have ne1153 : a1 ≠ b1151 := Nat.ne_of_lt (Nat.lt_of_lt_of_le A1.lt (Nat.le_of_eq g1151.symm))
  have ne1154 : a2 ≠ b1151 := Nat.ne_of_lt (Nat.lt_of_lt_of_le A2.lt (Nat.le_of_eq g1151.symm))
  have ne1155 : a3 ≠ b1151 := Nat.ne_of_lt (Nat.lt_of_lt_of_le A3.lt (Nat.le_of_eq g1151.symm))
  have ne1156 : a4 ≠ b1151 := Nat.ne_of_lt (Nat.lt_of_lt_of_le A4.lt (Nat.le_of_eq g1151.symm))
  have ne1157 : a5 ≠ b1151 := Nat.ne_of_lt (Nat.lt_of_lt_of_le A5.lt (Nat.le_of_eq g1151.symm))
  have ge1158 : n0 ≤ b1151 := Nat.le_trans Z0 (Nat.le_of_eq g1151.symm)
  have sz1159 : h0.size ≤ b1151 := Nat.le_trans K0.1 (Nat.le_of_eq g1151.symm)
  have f1160 := E0.ext E1151
  have f1161 := F1.ext E1151
  have f1162 := F2.ext E1151
  have f1163 := F3.ext E1151
  have f1164 := F4.ext E1151
  have f1165 := F5.ext E1151
  have f1166 := A1.ext E1151
  have f1167 := A2.ext E1151
  have f1168 := A3.ext E1151
  have f1169 := A4.ext E1151
  have f1170 := A5.ext E1151
  have f1171 := FZ.ext E1151
  have z1172 := Nat.le_trans Z0 E1151.1
  have K1173 := K0.ext E1151
  have f1174 : Arv Z h1151 b1151 k1151 .int (2 : Int32) [(.int (0 : Int32)), (.int (0 : Int32))] (.int (0 : Int32)) := (Arv.new A1151 (by decide)).pad (pad_rep [] (.int (0 : Int32)) 2)
  refine own_putF X1151 hx hZ (host := "") hown (Or.inl (own_hw hw 19 rfl)) Via.refl e1151 f1165 f1160 (Or.inl (own_hw hw 20 rfl)) (own_hw hw 1 rfl) (ty := (.array .int)) (by decide) rfl rfl 48 rfl (hb hby own_d7_45) fun T1175 h1175 X1175 e1175 W1175 => ?_
  have f1176 := f1160.wr W1175
  have f1177 := f1161.other W1175 (Or.inr (slot_ne (Or.inl (own_hw hw 11 rfl)) (Or.inl (own_hw hw 20 rfl)) (by decide) (t := (.array .int)) (t' := (.array .int)) (by decide) (by decide)))
  have f1178 := f1162.other W1175 (Or.inr (slot_ne (Or.inl (own_hw hw 13 rfl)) (Or.inl (own_hw hw 20 rfl)) (by decide) (t := (.array .int)) (t' := (.array .int)) (by decide) (by decide)))
  have f1179 := f1163.other W1175 (Or.inr (slot_ne (Or.inl (own_hw hw 15 rfl)) (Or.inl (own_hw hw 20 rfl)) (by decide) (t := (.array .int)) (t' := (.array .int)) (by decide) (by decide)))
  have f1180 := f1164.other W1175 (Or.inr (slot_ne (Or.inl (own_hw hw 18 rfl)) (Or.inl (own_hw hw 20 rfl)) (by decide) (t := (.array .double)) (t' := (.array .int)) (by decide) (by decide)))
  have f1181 := f1166.other W1175 (Ne.symm n_oa1)
  have f1182 := f1167.other W1175 (Ne.symm n_oa2)
  have f1183 := f1168.other W1175 (Ne.symm n_oa3)
  have f1184 := f1169.other W1175 (Ne.symm n_oa4)
  have f1185 := f1170.other W1175 (Ne.symm n_oa5)
  have f1186 := f1171.other W1175 (Or.inr (slot_ne (Or.inl (own_hw hw 27 rfl)) (Or.inl (own_hw hw 20 rfl)) (by decide) (t := .int) (t' := (.array .int)) (by decide) (by decide)))
  have f1187 := C1151.wr W1175
  have f1188 := f1174.other W1175 (Ne.symm ne1152)
  have z1189 := Nat.le_trans z1172 (Keep.of_wr W1175).1
  have K1190 := K1173.wr W1175 (Or.inl (List.mem_of_getElem? (i := 0) rfl))
  have f1191 := f1165.same W1175
  have N1192 := Fr.snoc X1175 N0 g_o
  refine own_iconst X1175 hx 49 rfl (hb hby own_d7_48) (0 : Int32) rfl ?_
  refine own_istoreN X1175 hx 50 rfl (hb hby own_d7_49) #[.val (.ref o), .val (.int (1 : Int32)), .val (.int (0 : Int32)), .unset, .unset] rfl ?_
  refine own_iconst X1175 hx 51 rfl (hb hby own_d7_50) (0 : Int32) rfl ?_
  refine own_istoreN X1175 hx 52 rfl (hb hby own_d7_51) #[.val (.ref o), .val (.int (1 : Int32)), .val (.int (0 : Int32)), .val (.int (0 : Int32)), .unset] rfl ?_
  refine own_iloadN X1175 hx 53 rfl (hb hby own_d7_52) rfl ?_
  refine own_aloadN X1175 hx 54 rfl (hb hby own_d7_53) rfl rfl ?_
  refine own_getF X1175 hx hZ (host := "") hown (Or.inl (own_hw hw 26 rfl)) Via.refl e1175 f1186 57 rfl (hb hby own_d7_54) fun T1193 X1193 e1193 => ?_
  refine own_icmpNo X1193 hx 60 rfl (hb hby own_d7_57) (by decide) ?_
  refine own_iloadN X1193 hx 61 rfl (hb hby own_d7_60) rfl ?_
  refine own_iloadN X1193 hx 62 rfl (hb hby own_d7_61) rfl ?_
  refine own_icmpNo X1193 hx 65 rfl (hb hby own_d7_62) (by decide) ?_
  refine own_aloadN X1193 hx 66 rfl (hb hby own_d7_65) rfl rfl ?_
  refine own_getF X1193 hx hZ (host := "") hown (Or.inl (own_hw hw 19 rfl)) Via.refl e1193 f1191 69 rfl (hb hby own_d7_66) fun T1194 X1194 e1194 => ?_
  refine own_iloadN X1194 hx 70 rfl (hb hby own_d7_69) rfl ?_
  refine own_iloadN X1194 hx 71 rfl (hb hby own_d7_70) rfl ?_
  refine own_stI X1194 hx hZ e1194 f1188 ⟨by decide, by decide⟩ 0 rfl (Nat.le_of_ble_eq_true rfl) [(.int (0 : Int32)), (.int (0 : Int32))] rfl 72 rfl (hb hby own_d7_71) fun T1195 h1195 X1195 e1195 W1195 f1196 => ?_
  have f1197 := f1176.wr W1195
  have f1198 := f1177.other W1195 (Or.inl ne1152)
  have f1199 := f1178.other W1195 (Or.inl ne1152)
  have f1200 := f1179.other W1195 (Or.inl ne1152)
  have f1201 := f1180.other W1195 (Or.inl ne1152)
  have f1202 := f1181.other W1195 ne1153
  have f1203 := f1182.other W1195 ne1154
  have f1204 := f1183.other W1195 ne1155
  have f1205 := f1184.other W1195 ne1156
  have f1206 := f1185.other W1195 ne1157
  have f1207 := f1186.other W1195 (Or.inl ne1152)
  have f1208 := f1187.wr W1195
  have f1209 := f1191.other W1195 (Or.inl ne1152)
  have z1210 := Nat.le_trans z1189 (Keep.of_wr W1195).1
  have K1211 := K1190.wr W1195 (Or.inr sz1159)
  have N1212 := Fr.snoc X1195 N1192 ge1158
  refine own_aloadN X1195 hx 73 rfl (hb hby own_d7_72) rfl rfl ?_
  refine own_iloadN X1195 hx 74 rfl (hb hby own_d7_73) rfl ?_
  refine own_private X1195 hx hZ (y := (⟨"com/example/prizepath/prizepath/Insertions", "siftUp", "(I)V"⟩ : MethodName)) (z := (⟨"com/example/prizepath/prizepath/Insertions", "clear", "()V"⟩ : MethodName)) hown (own_hw hw 49 rfl) (own_hw hw 50 rfl) rfl (own_hw hw 24 rfl) (own_hw hw 51 rfl) (a := o) f1197 (by decide) (rm_up0 l Z a0 hw [] o h1195 n0 z1210 ) (own_hw hw 52 rfl) (own_hw hw 2 rfl) (by decide) e1195 (by rw [hml]; rfl) [(.int (0 : Int32))] 0 (by decide) (Nat.le_of_eq rfl) (by decide) (by decide) (lenOf own_pd7 rfl) rfl rfl 77 rfl (hb hby own_d7_74) fun v1213 T1213 Lc1213 X1213 hQ1213 => ?_
  obtain ⟨rfl, Nq1213, e1213⟩ := hQ1213
  have N1214 := Fr.app N1212 Nq1213
  show own_Go _ _ _ _ _ (State.setTop _ (mkF _ 77 _ []))
  refine own_iinc X1213 hx 80 rfl (hb hby own_d7_77) rfl #[.val (.ref o), .val (.int (1 : Int32)), .val (.int (1 : Int32)), .val (.int (0 : Int32)), .unset] rfl ?_
  refine own_goto X1213 hx 109 (hb hby own_d7_80) (by decide) rfl ?_
  refine own_iinc X1213 hx 112 rfl (hb hby own_d7_109) rfl #[.val (.ref o), .val (.int (1 : Int32)), .val (.int (1 : Int32)), .val (.int (1 : Int32)), .unset] rfl ?_
  refine own_goto X1213 hx 52 (hb hby own_d7_112) (by decide) rfl ?_
  refine own_iloadN X1213 hx 53 rfl (hb hby own_d7_52) rfl ?_
  refine own_aloadN X1213 hx 54 rfl (hb hby own_d7_53) rfl rfl ?_
  refine own_getF X1213 hx hZ (host := "") hown (Or.inl (own_hw hw 26 rfl)) Via.refl e1213 f1207 57 rfl (hb hby own_d7_54) fun T1215 X1215 e1215 => ?_
  refine own_icmpNo X1215 hx 60 rfl (hb hby own_d7_57) (by decide) ?_
  refine own_iloadN X1215 hx 61 rfl (hb hby own_d7_60) rfl ?_
  refine own_iloadN X1215 hx 62 rfl (hb hby own_d7_61) rfl ?_
  refine own_icmpNo X1215 hx 65 rfl (hb hby own_d7_62) (by decide) ?_
  refine own_aloadN X1215 hx 66 rfl (hb hby own_d7_65) rfl rfl ?_
  refine own_getF X1215 hx hZ (host := "") hown (Or.inl (own_hw hw 19 rfl)) Via.refl e1215 f1209 69 rfl (hb hby own_d7_66) fun T1216 X1216 e1216 => ?_
  refine own_iloadN X1216 hx 70 rfl (hb hby own_d7_69) rfl ?_
  refine own_iloadN X1216 hx 71 rfl (hb hby own_d7_70) rfl ?_
  refine own_stI X1216 hx hZ e1216 f1196 ⟨by decide, by decide⟩ 1 rfl (Nat.le_of_ble_eq_true rfl) [(.int (0 : Int32)), (.int (1 : Int32))] rfl 72 rfl (hb hby own_d7_71) fun T1217 h1217 X1217 e1217 W1217 f1218 => ?_
  have f1219 := f1197.wr W1217
  have f1220 := f1198.other W1217 (Or.inl ne1152)
  have f1221 := f1199.other W1217 (Or.inl ne1152)
  have f1222 := f1200.other W1217 (Or.inl ne1152)
  have f1223 := f1201.other W1217 (Or.inl ne1152)
  have f1224 := f1202.other W1217 ne1153
  have f1225 := f1203.other W1217 ne1154
  have f1226 := f1204.other W1217 ne1155
  have f1227 := f1205.other W1217 ne1156
  have f1228 := f1206.other W1217 ne1157
  have f1229 := f1207.other W1217 (Or.inl ne1152)
  have f1230 := f1208.wr W1217
  have f1231 := f1209.other W1217 (Or.inl ne1152)
  have z1232 := Nat.le_trans z1210 (Keep.of_wr W1217).1
  have K1233 := K1211.wr W1217 (Or.inr sz1159)
  have N1234 := Fr.snoc X1217 N1214 ge1158
  refine own_aloadN X1217 hx 73 rfl (hb hby own_d7_72) rfl rfl ?_
  refine own_iloadN X1217 hx 74 rfl (hb hby own_d7_73) rfl ?_
  refine own_private X1217 hx hZ (y := (⟨"com/example/prizepath/prizepath/Insertions", "siftUp", "(I)V"⟩ : MethodName)) (z := (⟨"com/example/prizepath/prizepath/Insertions", "clear", "()V"⟩ : MethodName)) hown (own_hw hw 49 rfl) (own_hw hw 50 rfl) rfl (own_hw hw 24 rfl) (own_hw hw 51 rfl) (a := o) f1219 (by decide) (rm_up12 l Z a0 hw [] o a1 a2 a3 a4 b1151 k1 k2 k3 k4 k1151 c0 c1 c2 r0 r1 r2 p0 p1 p2 d0 d1 d2 h1217 n0 z1232 f1219 f1220 f1221 f1222 f1223 f1231 f1224 f1225 f1226 f1227 f1218 ge1158 ne1153 ne1154 ne1155 ne1156 ne1152 nd0 nd1 nd2) (own_hw hw 52 rfl) (own_hw hw 2 rfl) (by decide) e1217 (by rw [hml]; rfl) [(.int (1 : Int32))] 0 (by decide) (Nat.le_of_eq rfl) (by decide) (by decide) (lenOf own_pd7 rfl) rfl rfl 77 rfl (hb hby own_d7_74) fun v1235 T1235 Lc1235 X1235 hQ1235 => ?_
  obtain ⟨rfl, Nq1235, Kq1235, fk1235⟩ := hQ1235
  have N1236 := Fr.app N1234 Nq1235
  have f1237 := f1219.keep Kq1235
  have f1238 := f1220.keep Kq1235 (ninS ne1152 nin0)
  have f1239 := f1221.keep Kq1235 (ninS ne1152 nin0)
  have f1240 := f1222.keep Kq1235 (ninS ne1152 nin0)
  have f1241 := f1223.keep Kq1235 (ninS ne1152 nin0)
  have f1242 := f1224.keep Kq1235 (ninS ne1153 nin0)
  have f1243 := f1225.keep Kq1235 (ninS ne1154 nin0)
  have f1244 := f1226.keep Kq1235 (ninS ne1155 nin0)
  have f1245 := f1227.keep Kq1235 (ninS ne1156 nin0)
  have f1246 := f1228.keep Kq1235 (ninS ne1157 nin0)
  have f1247 := f1229.keep Kq1235 (ninS ne1152 nin0)
  have f1248 := f1230.keep Kq1235
  have f1249 := f1231.keep Kq1235 (ninS ne1152 nin0)
  have z1251 := Nat.le_trans z1232 Kq1235.1
  have K1252 := K1233.trans Kq1235 (allS (Or.inr sz1159) all0)
  rcases fk1235 with fk1235 | fk1235
  ·
    show own_Go _ _ _ _ _ (State.setTop _ (mkF _ 77 #[.val (.ref o), .val (.int (1 : Int32)), .val (.int (1 : Int32)), .val (.int (1 : Int32)), .unset] []))
    refine own_iinc X1235 hx 80 rfl (hb hby own_d7_77) rfl #[.val (.ref o), .val (.int (1 : Int32)), .val (.int (2 : Int32)), .val (.int (1 : Int32)), .unset] rfl ?_
    refine own_goto X1235 hx 109 (hb hby own_d7_80) (by decide) rfl ?_
    refine own_iinc X1235 hx 112 rfl (hb hby own_d7_109) rfl #[.val (.ref o), .val (.int (1 : Int32)), .val (.int (2 : Int32)), .val (.int (2 : Int32)), .unset] rfl ?_
    refine own_goto X1235 hx 52 (hb hby own_d7_112) (by decide) rfl ?_
    refine own_iloadN X1235 hx 53 rfl (hb hby own_d7_52) rfl ?_
    refine own_aloadN X1235 hx 54 rfl (hb hby own_d7_53) rfl rfl ?_
    refine own_getF X1235 hx hZ (host := "") hown (Or.inl (own_hw hw 26 rfl)) Via.refl rfl f1247 57 rfl (hb hby own_d7_54) fun T1253 X1253 e1253 => ?_
    refine own_icmpYes X1253 hx 115 (hb hby own_d7_57) (by decide) (by decide) rfl ?_
    refine own_aloadN X1253 hx 116 rfl (hb hby own_d7_115) rfl rfl ?_
    refine own_getF X1253 hx hZ (host := "") hown (Or.inl (own_hw hw 19 rfl)) Via.refl e1253 f1249 119 rfl (hb hby own_d7_116) fun T1254 X1254 e1254 => ?_
    refine own_iconst X1254 hx 120 rfl (hb hby own_d7_119) (0 : Int32) rfl ?_
    refine own_ldI X1254 hx hZ e1254 fk1235 ⟨by decide, by decide⟩ (0 : Int32) rfl 121 rfl (hb hby own_d7_120) ?_
    refine own_istoreN X1254 hx 122 rfl (hb hby own_d7_121) #[.val (.ref o), .val (.int (1 : Int32)), .val (.int (2 : Int32)), .val (.int (0 : Int32)), .unset] rfl ?_
    refine own_new X1254 hx hZ hown (own_hw hw 53 rfl) (own_hw hw 54 rfl) (own_hw hw 55 rfl) e1254 125 rfl (hb hby own_d7_122) (by decide) (by decide) fun T1255 h1255 b1255 g1255 X1255 e1255 E1255 A1255 D1255 => ?_
    have ne1256 : o ≠ b1255 := Nat.ne_of_lt (Nat.lt_of_lt_of_le f1237.lt (Nat.le_of_eq g1255.symm))
    have ne1257 : a1 ≠ b1255 := Nat.ne_of_lt (Nat.lt_of_lt_of_le f1242.lt (Nat.le_of_eq g1255.symm))
    have ne1258 : a2 ≠ b1255 := Nat.ne_of_lt (Nat.lt_of_lt_of_le f1243.lt (Nat.le_of_eq g1255.symm))
    have ne1259 : a3 ≠ b1255 := Nat.ne_of_lt (Nat.lt_of_lt_of_le f1244.lt (Nat.le_of_eq g1255.symm))
    have ne1260 : a4 ≠ b1255 := Nat.ne_of_lt (Nat.lt_of_lt_of_le f1245.lt (Nat.le_of_eq g1255.symm))
    have ne1261 : a5 ≠ b1255 := Nat.ne_of_lt (Nat.lt_of_lt_of_le f1246.lt (Nat.le_of_eq g1255.symm))
    have ne1262 : b1151 ≠ b1255 := Nat.ne_of_lt (Nat.lt_of_lt_of_le f1248.lt (Nat.le_of_eq g1255.symm))
    have ge1263 : n0 ≤ b1255 := Nat.le_trans z1251 (Nat.le_of_eq g1255.symm)
    have sz1264 : h0.size ≤ b1255 := Nat.le_trans K1252.1 (Nat.le_of_eq g1255.symm)
    have f1265 := f1237.ext E1255
    have f1266 := f1238.ext E1255
    have f1267 := f1239.ext E1255
    have f1268 := f1240.ext E1255
    have f1269 := f1241.ext E1255
    have f1270 := f1242.ext E1255
    have f1271 := f1243.ext E1255
    have f1272 := f1244.ext E1255
    have f1273 := f1245.ext E1255
    have f1274 := f1246.ext E1255
    have f1275 := f1247.ext E1255
    have f1276 := f1248.ext E1255
    have f1277 := f1249.ext E1255
    have f1278 := fk1235.ext E1255
    have z1279 := Nat.le_trans z1251 E1255.1
    have K1280 := K1252.ext E1255
    have f1281 : Fld Z h1255 b1255 "com/example/prizepath/prizepath/Insertions$Insertion" "customer" "I" (.int (0 : Int32)) := D1255 (Or.inr (own_hw hw 66 rfl)) (ty := .int) (by decide)
    have f1282 : Fld Z h1255 b1255 "com/example/prizepath/prizepath/Insertions$Insertion" "route" "I" (.int (0 : Int32)) := D1255 (Or.inr (own_hw hw 68 rfl)) (ty := .int) (by decide)
    have f1283 : Fld Z h1255 b1255 "com/example/prizepath/prizepath/Insertions$Insertion" "place" "I" (.int (0 : Int32)) := D1255 (Or.inr (own_hw hw 70 rfl)) (ty := .int) (by decide)
    refine own_dup X1255 hx 126 rfl (hb hby own_d7_125) rfl ?_
    refine own_aloadN X1255 hx 127 rfl (hb hby own_d7_126) rfl rfl ?_
    refine own_getF X1255 hx hZ (host := "") hown (Or.inl (own_hw hw 10 rfl)) Via.refl e1255 f1266 130 rfl (hb hby own_d7_127) fun T1284 X1284 e1284 => ?_
    refine own_iloadN X1284 hx 131 rfl (hb hby own_d7_130) rfl ?_
    refine own_ldI X1284 hx hZ e1284 f1270 ⟨by decide, by decide⟩ c0 rfl 132 rfl (hb hby own_d7_131) ?_
    refine own_aloadN X1284 hx 133 rfl (hb hby own_d7_132) rfl rfl ?_
    refine own_getF X1284 hx hZ (host := "") hown (Or.inl (own_hw hw 12 rfl)) Via.refl e1284 f1267 136 rfl (hb hby own_d7_133) fun T1285 X1285 e1285 => ?_
    refine own_iloadN X1285 hx 137 rfl (hb hby own_d7_136) rfl ?_
    refine own_ldI X1285 hx hZ e1285 f1271 ⟨by decide, by decide⟩ r0 rfl 138 rfl (hb hby own_d7_137) ?_
    refine own_aloadN X1285 hx 139 rfl (hb hby own_d7_138) rfl rfl ?_
    refine own_getF X1285 hx hZ (host := "") hown (Or.inl (own_hw hw 14 rfl)) Via.refl e1285 f1268 142 rfl (hb hby own_d7_139) fun T1286 X1286 e1286 => ?_
    refine own_iloadN X1286 hx 143 rfl (hb hby own_d7_142) rfl ?_
    refine own_ldI X1286 hx hZ e1286 f1272 ⟨by decide, by decide⟩ p0 rfl 144 rfl (hb hby own_d7_143) ?_
    refine own_special X1286 hx hZ (y := (⟨"com/example/prizepath/prizepath/Insertions$Insertion", "<init>", "(III)V"⟩ : MethodName)) hown rfl (own_hw hw 56 rfl) (own_hw hw 57 rfl) (a := b1255) (by decide) rfl (rm_ins l Z a0 hw [] b1255 c0 r0 p0 h1255 n0 z1279 A1255 f1281 f1282 f1283 ge1263) (own_hw hw 58 rfl) (own_hw hw 55 rfl) (by decide) e1286 (by rw [hml]; rfl) [(.int c0), (.int r0), (.int p0)] 1 (by decide) (Nat.le_of_eq rfl) (by decide) (by decide) (lenOf own_pd8 rfl) rfl rfl 147 rfl (hb hby own_d7_144) fun v1287 T1287 Lc1287 X1287 hQ1287 => ?_
    obtain ⟨rfl, Nq1287, Kq1287, f1288, f1289, f1290, f1291⟩ := hQ1287
    have N1292 := Fr.app N1236 Nq1287
    have f1293 := f1265.keep Kq1287
    have f1294 := f1266.keep Kq1287 (ninS ne1256 nin0)
    have f1295 := f1267.keep Kq1287 (ninS ne1256 nin0)
    have f1296 := f1268.keep Kq1287 (ninS ne1256 nin0)
    have f1297 := f1269.keep Kq1287 (ninS ne1256 nin0)
    have f1298 := f1270.keep Kq1287 (ninS ne1257 nin0)
    have f1299 := f1271.keep Kq1287 (ninS ne1258 nin0)
    have f1300 := f1272.keep Kq1287 (ninS ne1259 nin0)
    have f1301 := f1273.keep Kq1287 (ninS ne1260 nin0)
    have f1302 := f1274.keep Kq1287 (ninS ne1261 nin0)
    have f1303 := f1275.keep Kq1287 (ninS ne1256 nin0)
    have f1304 := f1276.keep Kq1287
    have f1305 := f1277.keep Kq1287 (ninS ne1256 nin0)
    have f1306 := f1278.keep Kq1287 (ninS ne1262 nin0)
    have f1307 := A1255.keep Kq1287
    have z1311 := Nat.le_trans z1279 Kq1287.1
    have K1312 := K1280.trans Kq1287 (allS (Or.inr sz1264) all0)
    show own_Go _ _ _ _ _ (State.setTop _ (mkF _ 147 _ [(.ref b1255)]))
    refine own_astore X1287 hx 149 rfl (hb hby own_d7_147) rfl #[.val (.ref o), .val (.int (1 : Int32)), .val (.int (2 : Int32)), .val (.int (0 : Int32)), .val (.ref b1255)] rfl ?_
    refine own_aloadN X1287 hx 150 rfl (hb hby own_d7_149) rfl rfl ?_
    refine own_iloadN X1287 hx 151 rfl (hb hby own_d7_150) rfl ?_
    refine own_private X1287 hx hZ (y := (⟨"com/example/prizepath/prizepath/Insertions", "moveLastTo", "(I)V"⟩ : MethodName)) (z := (⟨"com/example/prizepath/prizepath/Insertions", "clear", "()V"⟩ : MethodName)) hown (own_hw hw 71 rfl) (own_hw hw 72 rfl) rfl (own_hw hw 24 rfl) (own_hw hw 73 rfl) (a := o) f1293 (by decide) (rm_mv20 l Z a0 hw [] o a1 a2 a3 a4 k1 k2 k3 k4 c0 c1 c2 r0 r1 r2 p0 p1 p2 d0 d1 d2 T1287.heap n0 z1311 f1293 f1294 f1295 f1296 f1297 f1298 f1299 f1300 f1301 f1303 g_o g_a1 g_a2 g_a3 g_a4 n_oa1 n_oa2 n_oa3 n_oa4 n_a1a2 n_a1a3 n_a1a4 n_a2a3 n_a2a4 n_a3a4) (own_hw hw 74 rfl) (own_hw hw 2 rfl) (by decide) rfl (by rw [hml]; rfl) [(.int (0 : Int32))] 0 (by decide) (Nat.le_of_eq rfl) (by decide) (by decide) (lenOf own_pd7 rfl) rfl rfl 154 rfl (hb hby own_d7_151) fun v1313 T1313 Lc1313 X1313 hQ1313 => ?_
    obtain ⟨rfl, Nq1313, Kq1313, f1314⟩ := hQ1313
    have N1315 := Fr.app N1292 Nq1313
    have f1316 := f1293.keep Kq1313
    have f1325 := f1302.keep Kq1313 (ninS (Ne.symm n_oa5) (ninS (Ne.symm n_a1a5) (ninS (Ne.symm n_a2a5) (ninS (Ne.symm n_a3a5) (ninS (Ne.symm n_a4a5) nin0)))))
    have f1327 := f1304.keep Kq1313
    have f1329 := f1306.keep Kq1313 (ninS (Ne.symm ne1152) (ninS (Ne.symm ne1153) (ninS (Ne.symm ne1154) (ninS (Ne.symm ne1155) (ninS (Ne.symm ne1156) nin0)))))
    have f1330 := f1288.keep Kq1313
    have f1331 := f1289.keep Kq1313 (ninS (Ne.symm ne1256) (ninS (Ne.symm ne1257) (ninS (Ne.symm ne1258) (ninS (Ne.symm ne1259) (ninS (Ne.symm ne1260) nin0)))))
    have f1332 := f1290.keep Kq1313 (ninS (Ne.symm ne1256) (ninS (Ne.symm ne1257) (ninS (Ne.symm ne1258) (ninS (Ne.symm ne1259) (ninS (Ne.symm ne1260) nin0)))))
    have f1333 := f1291.keep Kq1313 (ninS (Ne.symm ne1256) (ninS (Ne.symm ne1257) (ninS (Ne.symm ne1258) (ninS (Ne.symm ne1259) (ninS (Ne.symm ne1260) nin0)))))
    have z1334 := Nat.le_trans z1311 Kq1313.1
    have K1335 := K1312.trans Kq1313 (allS (Or.inl (List.mem_of_getElem? (i := 0) rfl)) (allS (Or.inl (List.mem_of_getElem? (i := 1) rfl)) (allS (Or.inl (List.mem_of_getElem? (i := 2) rfl)) (allS (Or.inl (List.mem_of_getElem? (i := 3) rfl)) (allS (Or.inl (List.mem_of_getElem? (i := 4) rfl)) all0)))))
    show own_Go _ _ _ _ _ (State.setTop _ (mkF _ 154 _ []))
    refine own_aload X1313 hx 156 rfl (hb hby own_d7_154) rfl rfl ?_
    refine own_ret X1313 (some (.ref b1255)) (fun h => by rw [Bd.returns] at h; cases h) Bd.notSynchronized (by decide) (by decide) ?_ (fun fs hr => own_retR X1313 hx Bd.returns rfl rfl (hb hby own_d7_156) hr)
    show Q_rm_take21 Z o a1 a2 a3 a4 a5 k1 k2 k3 k4 k5 c0 c1 c2 r0 r1 r2 p0 p1 p2 d0 d1 d2 h0 n0 _ T1313.heap _
    exact ⟨_, rfl, N1315, K1335, f1314⟩
  ·
    show own_Go _ _ _ _ _ (State.setTop _ (mkF _ 77 #[.val (.ref o), .val (.int (1 : Int32)), .val (.int (1 : Int32)), .val (.int (1 : Int32)), .unset] []))
    refine own_iinc X1235 hx 80 rfl (hb hby own_d7_77) rfl #[.val (.ref o), .val (.int (1 : Int32)), .val (.int (2 : Int32)), .val (.int (1 : Int32)), .unset] rfl ?_
    refine own_goto X1235 hx 109 (hb hby own_d7_80) (by decide) rfl ?_
    refine own_iinc X1235 hx 112 rfl (hb hby own_d7_109) rfl #[.val (.ref o), .val (.int (1 : Int32)), .val (.int (2 : Int32)), .val (.int (2 : Int32)), .unset] rfl ?_
    refine own_goto X1235 hx 52 (hb hby own_d7_112) (by decide) rfl ?_
    refine own_iloadN X1235 hx 53 rfl (hb hby own_d7_52) rfl ?_
    refine own_aloadN X1235 hx 54 rfl (hb hby own_d7_53) rfl rfl ?_
    refine own_getF X1235 hx hZ (host := "") hown (Or.inl (own_hw hw 26 rfl)) Via.refl rfl f1247 57 rfl (hb hby own_d7_54) fun T1336 X1336 e1336 => ?_
    refine own_icmpYes X1336 hx 115 (hb hby own_d7_57) (by decide) (by decide) rfl ?_
    refine own_aloadN X1336 hx 116 rfl (hb hby own_d7_115) rfl rfl ?_
    refine own_getF X1336 hx hZ (host := "") hown (Or.inl (own_hw hw 19 rfl)) Via.refl e1336 f1249 119 rfl (hb hby own_d7_116) fun T1337 X1337 e1337 => ?_
    refine own_iconst X1337 hx 120 rfl (hb hby own_d7_119) (0 : Int32) rfl ?_
    refine own_ldI X1337 hx hZ e1337 fk1235 ⟨by decide, by decide⟩ (1 : Int32) rfl 121 rfl (hb hby own_d7_120) ?_
    refine own_istoreN X1337 hx 122 rfl (hb hby own_d7_121) #[.val (.ref o), .val (.int (1 : Int32)), .val (.int (2 : Int32)), .val (.int (1 : Int32)), .unset] rfl ?_
    refine own_new X1337 hx hZ hown (own_hw hw 53 rfl) (own_hw hw 54 rfl) (own_hw hw 55 rfl) e1337 125 rfl (hb hby own_d7_122) (by decide) (by decide) fun T1338 h1338 b1338 g1338 X1338 e1338 E1338 A1338 D1338 => ?_
    have ne1339 : o ≠ b1338 := Nat.ne_of_lt (Nat.lt_of_lt_of_le f1237.lt (Nat.le_of_eq g1338.symm))
    have ne1340 : a1 ≠ b1338 := Nat.ne_of_lt (Nat.lt_of_lt_of_le f1242.lt (Nat.le_of_eq g1338.symm))
    have ne1341 : a2 ≠ b1338 := Nat.ne_of_lt (Nat.lt_of_lt_of_le f1243.lt (Nat.le_of_eq g1338.symm))
    have ne1342 : a3 ≠ b1338 := Nat.ne_of_lt (Nat.lt_of_lt_of_le f1244.lt (Nat.le_of_eq g1338.symm))
    have ne1343 : a4 ≠ b1338 := Nat.ne_of_lt (Nat.lt_of_lt_of_le f1245.lt (Nat.le_of_eq g1338.symm))
    have ne1344 : a5 ≠ b1338 := Nat.ne_of_lt (Nat.lt_of_lt_of_le f1246.lt (Nat.le_of_eq g1338.symm))
    have ne1345 : b1151 ≠ b1338 := Nat.ne_of_lt (Nat.lt_of_lt_of_le f1248.lt (Nat.le_of_eq g1338.symm))
    have ge1346 : n0 ≤ b1338 := Nat.le_trans z1251 (Nat.le_of_eq g1338.symm)
    have sz1347 : h0.size ≤ b1338 := Nat.le_trans K1252.1 (Nat.le_of_eq g1338.symm)
    have f1348 := f1237.ext E1338
    have f1349 := f1238.ext E1338
    have f1350 := f1239.ext E1338
    have f1351 := f1240.ext E1338
    have f1352 := f1241.ext E1338
    have f1353 := f1242.ext E1338
    have f1354 := f1243.ext E1338
    have f1355 := f1244.ext E1338
    have f1356 := f1245.ext E1338
    have f1357 := f1246.ext E1338
    have f1358 := f1247.ext E1338
    have f1359 := f1248.ext E1338
    have f1360 := f1249.ext E1338
    have f1361 := fk1235.ext E1338
    have z1362 := Nat.le_trans z1251 E1338.1
    have K1363 := K1252.ext E1338
    have f1364 : Fld Z h1338 b1338 "com/example/prizepath/prizepath/Insertions$Insertion" "customer" "I" (.int (0 : Int32)) := D1338 (Or.inr (own_hw hw 66 rfl)) (ty := .int) (by decide)
    have f1365 : Fld Z h1338 b1338 "com/example/prizepath/prizepath/Insertions$Insertion" "route" "I" (.int (0 : Int32)) := D1338 (Or.inr (own_hw hw 68 rfl)) (ty := .int) (by decide)
    have f1366 : Fld Z h1338 b1338 "com/example/prizepath/prizepath/Insertions$Insertion" "place" "I" (.int (0 : Int32)) := D1338 (Or.inr (own_hw hw 70 rfl)) (ty := .int) (by decide)
    refine own_dup X1338 hx 126 rfl (hb hby own_d7_125) rfl ?_
    refine own_aloadN X1338 hx 127 rfl (hb hby own_d7_126) rfl rfl ?_
    refine own_getF X1338 hx hZ (host := "") hown (Or.inl (own_hw hw 10 rfl)) Via.refl e1338 f1349 130 rfl (hb hby own_d7_127) fun T1367 X1367 e1367 => ?_
    refine own_iloadN X1367 hx 131 rfl (hb hby own_d7_130) rfl ?_
    refine own_ldI X1367 hx hZ e1367 f1353 ⟨by decide, by decide⟩ c1 rfl 132 rfl (hb hby own_d7_131) ?_
    refine own_aloadN X1367 hx 133 rfl (hb hby own_d7_132) rfl rfl ?_
    refine own_getF X1367 hx hZ (host := "") hown (Or.inl (own_hw hw 12 rfl)) Via.refl e1367 f1350 136 rfl (hb hby own_d7_133) fun T1368 X1368 e1368 => ?_
    refine own_iloadN X1368 hx 137 rfl (hb hby own_d7_136) rfl ?_
    refine own_ldI X1368 hx hZ e1368 f1354 ⟨by decide, by decide⟩ r1 rfl 138 rfl (hb hby own_d7_137) ?_
    refine own_aloadN X1368 hx 139 rfl (hb hby own_d7_138) rfl rfl ?_
    refine own_getF X1368 hx hZ (host := "") hown (Or.inl (own_hw hw 14 rfl)) Via.refl e1368 f1351 142 rfl (hb hby own_d7_139) fun T1369 X1369 e1369 => ?_
    refine own_iloadN X1369 hx 143 rfl (hb hby own_d7_142) rfl ?_
    refine own_ldI X1369 hx hZ e1369 f1355 ⟨by decide, by decide⟩ p1 rfl 144 rfl (hb hby own_d7_143) ?_
    refine own_special X1369 hx hZ (y := (⟨"com/example/prizepath/prizepath/Insertions$Insertion", "<init>", "(III)V"⟩ : MethodName)) hown rfl (own_hw hw 56 rfl) (own_hw hw 57 rfl) (a := b1338) (by decide) rfl (rm_ins l Z a0 hw [] b1338 c1 r1 p1 h1338 n0 z1362 A1338 f1364 f1365 f1366 ge1346) (own_hw hw 58 rfl) (own_hw hw 55 rfl) (by decide) e1369 (by rw [hml]; rfl) [(.int c1), (.int r1), (.int p1)] 1 (by decide) (Nat.le_of_eq rfl) (by decide) (by decide) (lenOf own_pd8 rfl) rfl rfl 147 rfl (hb hby own_d7_144) fun v1370 T1370 Lc1370 X1370 hQ1370 => ?_
    obtain ⟨rfl, Nq1370, Kq1370, f1371, f1372, f1373, f1374⟩ := hQ1370
    have N1375 := Fr.app N1236 Nq1370
    have f1376 := f1348.keep Kq1370
    have f1377 := f1349.keep Kq1370 (ninS ne1339 nin0)
    have f1378 := f1350.keep Kq1370 (ninS ne1339 nin0)
    have f1379 := f1351.keep Kq1370 (ninS ne1339 nin0)
    have f1380 := f1352.keep Kq1370 (ninS ne1339 nin0)
    have f1381 := f1353.keep Kq1370 (ninS ne1340 nin0)
    have f1382 := f1354.keep Kq1370 (ninS ne1341 nin0)
    have f1383 := f1355.keep Kq1370 (ninS ne1342 nin0)
    have f1384 := f1356.keep Kq1370 (ninS ne1343 nin0)
    have f1385 := f1357.keep Kq1370 (ninS ne1344 nin0)
    have f1386 := f1358.keep Kq1370 (ninS ne1339 nin0)
    have f1387 := f1359.keep Kq1370
    have f1388 := f1360.keep Kq1370 (ninS ne1339 nin0)
    have f1389 := f1361.keep Kq1370 (ninS ne1345 nin0)
    have f1390 := A1338.keep Kq1370
    have z1394 := Nat.le_trans z1362 Kq1370.1
    have K1395 := K1363.trans Kq1370 (allS (Or.inr sz1347) all0)
    show own_Go _ _ _ _ _ (State.setTop _ (mkF _ 147 _ [(.ref b1338)]))
    refine own_astore X1370 hx 149 rfl (hb hby own_d7_147) rfl #[.val (.ref o), .val (.int (1 : Int32)), .val (.int (2 : Int32)), .val (.int (1 : Int32)), .val (.ref b1338)] rfl ?_
    refine own_aloadN X1370 hx 150 rfl (hb hby own_d7_149) rfl rfl ?_
    refine own_iloadN X1370 hx 151 rfl (hb hby own_d7_150) rfl ?_
    refine own_private X1370 hx hZ (y := (⟨"com/example/prizepath/prizepath/Insertions", "moveLastTo", "(I)V"⟩ : MethodName)) (z := (⟨"com/example/prizepath/prizepath/Insertions", "clear", "()V"⟩ : MethodName)) hown (own_hw hw 71 rfl) (own_hw hw 72 rfl) rfl (own_hw hw 24 rfl) (own_hw hw 73 rfl) (a := o) f1376 (by decide) (rm_mv21 l Z a0 hw [] o a1 a2 a3 a4 k1 k2 k3 k4 c0 c1 c2 r0 r1 r2 p0 p1 p2 d0 d1 d2 T1370.heap n0 z1394 f1376 f1377 f1378 f1379 f1380 f1381 f1382 f1383 f1384 f1386 g_o g_a1 g_a2 g_a3 g_a4 n_oa1 n_oa2 n_oa3 n_oa4 n_a1a2 n_a1a3 n_a1a4 n_a2a3 n_a2a4 n_a3a4) (own_hw hw 74 rfl) (own_hw hw 2 rfl) (by decide) rfl (by rw [hml]; rfl) [(.int (1 : Int32))] 0 (by decide) (Nat.le_of_eq rfl) (by decide) (by decide) (lenOf own_pd7 rfl) rfl rfl 154 rfl (hb hby own_d7_151) fun v1396 T1396 Lc1396 X1396 hQ1396 => ?_
    obtain ⟨rfl, Nq1396, Kq1396, f1397⟩ := hQ1396
    have N1398 := Fr.app N1375 Nq1396
    have f1399 := f1376.keep Kq1396
    have f1408 := f1385.keep Kq1396 (ninS (Ne.symm n_oa5) (ninS (Ne.symm n_a1a5) (ninS (Ne.symm n_a2a5) (ninS (Ne.symm n_a3a5) (ninS (Ne.symm n_a4a5) nin0)))))
    have f1410 := f1387.keep Kq1396
    have f1412 := f1389.keep Kq1396 (ninS (Ne.symm ne1152) (ninS (Ne.symm ne1153) (ninS (Ne.symm ne1154) (ninS (Ne.symm ne1155) (ninS (Ne.symm ne1156) nin0)))))
    have f1413 := f1371.keep Kq1396
    have f1414 := f1372.keep Kq1396 (ninS (Ne.symm ne1339) (ninS (Ne.symm ne1340) (ninS (Ne.symm ne1341) (ninS (Ne.symm ne1342) (ninS (Ne.symm ne1343) nin0)))))
    have f1415 := f1373.keep Kq1396 (ninS (Ne.symm ne1339) (ninS (Ne.symm ne1340) (ninS (Ne.symm ne1341) (ninS (Ne.symm ne1342) (ninS (Ne.symm ne1343) nin0)))))
    have f1416 := f1374.keep Kq1396 (ninS (Ne.symm ne1339) (ninS (Ne.symm ne1340) (ninS (Ne.symm ne1341) (ninS (Ne.symm ne1342) (ninS (Ne.symm ne1343) nin0)))))
    have z1417 := Nat.le_trans z1394 Kq1396.1
    have K1418 := K1395.trans Kq1396 (allS (Or.inl (List.mem_of_getElem? (i := 0) rfl)) (allS (Or.inl (List.mem_of_getElem? (i := 1) rfl)) (allS (Or.inl (List.mem_of_getElem? (i := 2) rfl)) (allS (Or.inl (List.mem_of_getElem? (i := 3) rfl)) (allS (Or.inl (List.mem_of_getElem? (i := 4) rfl)) all0)))))
    show own_Go _ _ _ _ _ (State.setTop _ (mkF _ 154 _ []))
    refine own_aload X1396 hx 156 rfl (hb hby own_d7_154) rfl rfl ?_
    refine own_ret X1396 (some (.ref b1338)) (fun h => by rw [Bd.returns] at h; cases h) Bd.notSynchronized (by decide) (by decide) ?_ (fun fs hr => own_retR X1396 hx Bd.returns rfl rfl (hb hby own_d7_156) hr)
    show Q_rm_take21 Z o a1 a2 a3 a4 a5 k1 k2 k3 k4 k5 c0 c1 c2 r0 r1 r2 p0 p1 p2 d0 d1 d2 h0 n0 _ T1396.heap _
    exact ⟨_, rfl, N1398, K1418, f1397⟩
theorem own_ef_rm_take30 (m : MethodId) (o : Addr) : entryFrame m #[(.ref o), (.int (0 : Int32))] 5 = mkF m 0 #[.val (.ref o), .val (.int (0 : Int32)), .unset, .unset, .unset] [] := by first | (simp [entryFrame, mkF, argsToLocals, Value.category]; done) | rfl
def Q_rm_take30 (Z : State) (o : Addr) (a1 : Addr) (a2 : Addr) (a3 : Addr) (a4 : Addr) (a5 : Addr) (k1 : ClassId) (k2 : ClassId) (k3 : ClassId) (k4 : ClassId) (k5 : ClassId) (c0 : Int32) (c1 : Int32) (c2 : Int32) (r0 : Int32) (r1 : Int32) (r2 : Int32) (p0 : Int32) (p1 : Int32) (p2 : Int32) (d0 : UInt64) (d1 : UInt64) (d2 : UInt64) (h0 : Heap) (n0 : Nat) (v : Option Value) (h : Heap) (L : List Loc) : Prop := ∃ b : Addr, v = some (.ref b) ∧ Fr n0 L ∧ Keep h0 h [o, a1, a2, a3, a4, a5] ∧ Fld Z h o "com/example/prizepath/prizepath/Insertions" "size" "I" (.int (2 : Int32))
set_option maxRecDepth 65536 in
set_option maxHeartbeats 40000000 in
theorem rm_take30 (l : Launch) (Z : State) (a0 : Array Value) (hw : ∀ d ∈ tables_1, d.before a0 Z = true) (ws : List Jvm.Cond) (o : Addr) (a1 : Addr) (a2 : Addr) (a3 : Addr) (a4 : Addr) (a5 : Addr) (k1 : ClassId) (k2 : ClassId) (k3 : ClassId) (k4 : ClassId) (k5 : ClassId) (c0 : Int32) (c1 : Int32) (c2 : Int32) (r0 : Int32) (r1 : Int32) (r2 : Int32) (p0 : Int32) (p1 : Int32) (p2 : Int32) (d0 : UInt64) (d1 : UInt64) (d2 : UInt64) (h0 : Heap) (n0 : Nat) (Z0 : n0 ≤ h0.size) (E0 : Exa Z h0 o "com/example/prizepath/prizepath/Insertions") (F1 : Fld Z h0 o "com/example/prizepath/prizepath/Insertions" "customers" "[I" (.ref a1)) (F2 : Fld Z h0 o "com/example/prizepath/prizepath/Insertions" "routes" "[I" (.ref a2)) (F3 : Fld Z h0 o "com/example/prizepath/prizepath/Insertions" "places" "[I" (.ref a3)) (F4 : Fld Z h0 o "com/example/prizepath/prizepath/Insertions" "ranks" "[D" (.ref a4)) (F5 : Fld Z h0 o "com/example/prizepath/prizepath/Insertions" "kept" "[I" (.ref a5)) (A1 : Arv Z h0 a1 k1 .int (256 : Int32) [(.int c0), (.int c1), (.int c2)] (.int (0 : Int32))) (A2 : Arv Z h0 a2 k2 .int (256 : Int32) [(.int r0), (.int r1), (.int r2)] (.int (0 : Int32))) (A3 : Arv Z h0 a3 k3 .int (256 : Int32) [(.int p0), (.int p1), (.int p2)] (.int (0 : Int32))) (A4 : Arv Z h0 a4 k4 .double (256 : Int32) [(.double d0), (.double d1), (.double d2)] (.double (0 : UInt64))) (A5 : Arv Z h0 a5 k5 .int (1 : Int32) [(.int (0 : Int32))] (.int (0 : Int32))) (FZ : Fld Z h0 o "com/example/prizepath/prizepath/Insertions" "size" "I" (.int (3 : Int32))) (g_o : n0 ≤ o) (g_a1 : n0 ≤ a1) (g_a2 : n0 ≤ a2) (g_a3 : n0 ≤ a3) (g_a4 : n0 ≤ a4) (g_a5 : n0 ≤ a5) (n_oa1 : o ≠ a1) (n_oa2 : o ≠ a2) (n_oa3 : o ≠ a3) (n_oa4 : o ≠ a4) (n_a1a2 : a1 ≠ a2) (n_a1a3 : a1 ≠ a3) (n_a1a4 : a1 ≠ a4) (n_a2a3 : a2 ≠ a3) (n_a2a4 : a2 ≠ a4) (n_a3a4 : a3 ≠ a4) (n_oa5 : o ≠ a5) (n_a1a5 : a1 ≠ a5) (n_a2a5 : a2 ≠ a5) (n_a3a5 : a3 ≠ a5) (n_a4a5 : a4 ≠ a5) (nd0 : cmpValue (FP.dcmp d0 d0) .l = 0) (nd1 : cmpValue (FP.dcmp d1 d1) .l = 0) (nd2 : cmpValue (FP.dcmp d2 d2) .l = 0) :
    MetFree l (⟨"com/example/prizepath/prizepath/Insertions", "take", "(I)Lcom/example/prizepath/prizepath/Insertions$Insertion;"⟩ : MethodName) (head1 (Jvm.Cond.code (⟨"com/example/prizepath/prizepath/Insertions", "take", "(I)Lcom/example/prizepath/prizepath/Insertions$Insertion;"⟩ : MethodName) prog_15_method_6_code 5 (some (.object "com/example/prizepath/prizepath/Insertions$Insertion")) :: ws) ({ frames := 5, cells := 2, slots := 4, locals := 100 } : Room)) (fun aa U => aa = #[(.ref o), (.int (0 : Int32))] ∧ Z.Warmed39 U.vm ∧ U.heap = h0) (fun _ _ _ _ _ => True) (fun _ U ou U' => ∃ v L, ou = .returned v ∧ Q_rm_take30 Z o a1 a2 a3 a4 a5 k1 k2 k3 k4 k5 c0 c1 c2 r0 r1 r2 p0 p1 p2 d0 d1 d2 h0 n0 v U'.heap L ∧ FrameEnd U ou U' L ({ frames := 5, cells := 2, slots := 4, locals := 100 } : Room).cells ({ frames := 5, cells := 2, slots := 4, locals := 100 } : Room).slots) := by
  refine MetFree.of_bodySF (plainFor_of_name own_pn2) hisR ?_
  intro p e s m args below meth c s₁ Bd hml0 hP hK
  obtain ⟨rfl, hZ, hh⟩ := hP
  have hx := Bd.exec
  have hby := Bd.bytes
  have hml : c.maxLocals = 5 := hml0
  have hown : s.vm.findClass "com/example/prizepath/prizepath/Insertions" = some m.cls := findClass_of_methodNamed Bd.named
  have hnm := (name_of_methodNamed Bd.named Bd.method).1
  have X0 : Stand p l e ({ frames := 5, cells := 2, slots := 4, locals := 100 } : Room) s m #[(.ref o), (.int (0 : Int32))] below meth c s₁ [] 0 0 := Stand.of_body Bd
  have e0 : s₁.heap = h0 := by rw [← hh, Bd.state]; rfl
  have N0 := Fr.nil n0
  have K0 := Keep.refl h0 [o, a1, a2, a3, a4, a5]
  show own_Go p e below (fun o u L => FrameEnd s o u L ({ frames := 5, cells := 2, slots := 4, locals := 100 } : Room).cells ({ frames := 5, cells := 2, slots := 4, locals := 100 } : Room).slots) (Q_rm_take30 Z o a1 a2 a3 a4 a5 k1 k2 k3 k4 k5 c0 c1 c2 r0 r1 r2 p0 p1 p2 d0 d1 d2 h0 n0) (s₁.setTop (entryFrame m #[(.ref o), (.int (0 : Int32))] 5))
  rw [own_ef_rm_take30 m o]
  show own_Go _ _ _ _ _ (State.setTop _ (mkF _ 0 #[.val (.ref o), .val (.int (0 : Int32)), .unset, .unset, .unset] []))
  refine own_iloadN X0 hx 1 rfl (hb hby own_d7_0) rfl ?_
  refine own_ifNo X0 hx 4 rfl (hb hby own_d7_1) (by decide) ?_
  refine own_iloadN X0 hx 5 rfl (hb hby own_d7_4) rfl ?_
  refine own_aloadN X0 hx 6 rfl (hb hby own_d7_5) rfl rfl ?_
  refine own_getF X0 hx hZ (host := "") hown (Or.inl (own_hw hw 26 rfl)) Via.refl e0 FZ 9 rfl (hb hby own_d7_6) fun T1419 X1419 e1419 => ?_
  refine own_icmpYes X1419 hx 30 (hb hby own_d7_9) (by decide) (by decide) rfl ?_
  refine own_aloadN X1419 hx 31 rfl (hb hby own_d7_30) rfl rfl ?_
  refine own_getF X1419 hx hZ (host := "") hown (Or.inl (own_hw hw 19 rfl)) Via.refl e1419 F5 34 rfl (hb hby own_d7_31) fun T1420 X1420 e1420 => ?_
  refine own_len X1420 hx hZ e1420 A5 35 rfl (hb hby own_d7_34) ?_
  refine own_iloadN X1420 hx 36 rfl (hb hby own_d7_35) rfl ?_
  refine own_icmpYes X1420 hx 48 (hb hby own_d7_36) (by decide) (by decide) rfl ?_
  refine own_iconst X1420 hx 49 rfl (hb hby own_d7_48) (0 : Int32) rfl ?_
  refine own_istoreN X1420 hx 50 rfl (hb hby own_d7_49) #[.val (.ref o), .val (.int (0 : Int32)), .val (.int (0 : Int32)), .unset, .unset] rfl ?_
  refine own_iconst X1420 hx 51 rfl (hb hby own_d7_50) (0 : Int32) rfl ?_
  refine own_istoreN X1420 hx 52 rfl (hb hby own_d7_51) #[.val (.ref o), .val (.int (0 : Int32)), .val (.int (0 : Int32)), .val (.int (0 : Int32)), .unset] rfl ?_
  refine own_iloadN X1420 hx 53 rfl (hb hby own_d7_52) rfl ?_
  refine own_aloadN X1420 hx 54 rfl (hb hby own_d7_53) rfl rfl ?_
  refine own_getF X1420 hx hZ (host := "") hown (Or.inl (own_hw hw 26 rfl)) Via.refl e1420 FZ 57 rfl (hb hby own_d7_54) fun T1421 X1421 e1421 => ?_
  refine own_icmpNo X1421 hx 60 rfl (hb hby own_d7_57) (by decide) ?_
  refine own_iloadN X1421 hx 61 rfl (hb hby own_d7_60) rfl ?_
  refine own_iloadN X1421 hx 62 rfl (hb hby own_d7_61) rfl ?_
  refine own_icmpNo X1421 hx 65 rfl (hb hby own_d7_62) (by decide) ?_
  refine own_aloadN X1421 hx 66 rfl (hb hby own_d7_65) rfl rfl ?_
  refine own_getF X1421 hx hZ (host := "") hown (Or.inl (own_hw hw 19 rfl)) Via.refl e1421 F5 69 rfl (hb hby own_d7_66) fun T1422 X1422 e1422 => ?_
  refine own_iloadN X1422 hx 70 rfl (hb hby own_d7_69) rfl ?_
  refine own_iloadN X1422 hx 71 rfl (hb hby own_d7_70) rfl ?_
  refine own_stI X1422 hx hZ e1422 A5 ⟨by decide, by decide⟩ 0 rfl (Nat.le_of_ble_eq_true rfl) [(.int (0 : Int32))] rfl 72 rfl (hb hby own_d7_71) fun T1423 h1423 X1423 e1423 W1423 f1424 => ?_
  have f1425 := E0.wr W1423
  have f1426 := F1.other W1423 (Or.inl n_oa5)
  have f1427 := F2.other W1423 (Or.inl n_oa5)
  have f1428 := F3.other W1423 (Or.inl n_oa5)
  have f1429 := F4.other W1423 (Or.inl n_oa5)
  have f1430 := F5.other W1423 (Or.inl n_oa5)
  have f1431 := A1.other W1423 n_a1a5
  have f1432 := A2.other W1423 n_a2a5
  have f1433 := A3.other W1423 n_a3a5
  have f1434 := A4.other W1423 n_a4a5
  have f1435 := FZ.other W1423 (Or.inl n_oa5)
  have z1436 := Nat.le_trans Z0 (Keep.of_wr W1423).1
  have K1437 := K0.wr W1423 (Or.inl (List.mem_of_getElem? (i := 5) rfl))
  have N1438 := Fr.snoc X1423 N0 g_a5
  refine own_aloadN X1423 hx 73 rfl (hb hby own_d7_72) rfl rfl ?_
  refine own_iloadN X1423 hx 74 rfl (hb hby own_d7_73) rfl ?_
  refine own_private X1423 hx hZ (y := (⟨"com/example/prizepath/prizepath/Insertions", "siftUp", "(I)V"⟩ : MethodName)) (z := (⟨"com/example/prizepath/prizepath/Insertions", "clear", "()V"⟩ : MethodName)) hown (own_hw hw 49 rfl) (own_hw hw 50 rfl) rfl (own_hw hw 24 rfl) (own_hw hw 51 rfl) (a := o) f1425 (by decide) (rm_up0 l Z a0 hw [] o h1423 n0 z1436 ) (own_hw hw 52 rfl) (own_hw hw 2 rfl) (by decide) e1423 (by rw [hml]; rfl) [(.int (0 : Int32))] 0 (by decide) (Nat.le_of_eq rfl) (by decide) (by decide) (lenOf own_pd7 rfl) rfl rfl 77 rfl (hb hby own_d7_74) fun v1439 T1439 Lc1439 X1439 hQ1439 => ?_
  obtain ⟨rfl, Nq1439, e1439⟩ := hQ1439
  have N1440 := Fr.app N1438 Nq1439
  show own_Go _ _ _ _ _ (State.setTop _ (mkF _ 77 _ []))
  refine own_iinc X1439 hx 80 rfl (hb hby own_d7_77) rfl #[.val (.ref o), .val (.int (0 : Int32)), .val (.int (1 : Int32)), .val (.int (0 : Int32)), .unset] rfl ?_
  refine own_goto X1439 hx 109 (hb hby own_d7_80) (by decide) rfl ?_
  refine own_iinc X1439 hx 112 rfl (hb hby own_d7_109) rfl #[.val (.ref o), .val (.int (0 : Int32)), .val (.int (1 : Int32)), .val (.int (1 : Int32)), .unset] rfl ?_
  refine own_goto X1439 hx 52 (hb hby own_d7_112) (by decide) rfl ?_
  refine own_iloadN X1439 hx 53 rfl (hb hby own_d7_52) rfl ?_
  refine own_aloadN X1439 hx 54 rfl (hb hby own_d7_53) rfl rfl ?_
  refine own_getF X1439 hx hZ (host := "") hown (Or.inl (own_hw hw 26 rfl)) Via.refl e1439 f1435 57 rfl (hb hby own_d7_54) fun T1441 X1441 e1441 => ?_
  refine own_icmpNo X1441 hx 60 rfl (hb hby own_d7_57) (by decide) ?_
  refine own_iloadN X1441 hx 61 rfl (hb hby own_d7_60) rfl ?_
  refine own_iloadN X1441 hx 62 rfl (hb hby own_d7_61) rfl ?_
  refine own_icmpYes X1441 hx 83 (hb hby own_d7_62) (by decide) (by decide) rfl ?_
  refine own_aloadN X1441 hx 84 rfl (hb hby own_d7_83) rfl rfl ?_
  refine own_iloadN X1441 hx 85 rfl (hb hby own_d7_84) rfl ?_
  refine own_aloadN X1441 hx 86 rfl (hb hby own_d7_85) rfl rfl ?_
  refine own_getF X1441 hx hZ (host := "") hown (Or.inl (own_hw hw 19 rfl)) Via.refl e1441 f1430 89 rfl (hb hby own_d7_86) fun T1442 X1442 e1442 => ?_
  refine own_iconst X1442 hx 90 rfl (hb hby own_d7_89) (0 : Int32) rfl ?_
  refine own_ldI X1442 hx hZ e1442 f1424 ⟨by decide, by decide⟩ (0 : Int32) rfl 91 rfl (hb hby own_d7_90) ?_
  refine own_private X1442 hx hZ (y := (⟨"com/example/prizepath/prizepath/Insertions", "ranksBefore", "(II)Z"⟩ : MethodName)) (z := (⟨"com/example/prizepath/prizepath/Insertions", "clear", "()V"⟩ : MethodName)) hown (own_hw hw 75 rfl) (own_hw hw 76 rfl) rfl (own_hw hw 24 rfl) (own_hw hw 77 rfl) (a := o) f1425 (by decide) (rm_rb l Z a0 hw [] o (1 : Int32) (0 : Int32) a1 a2 a3 a4 k1 k2 k3 k4 [(.int c0), (.int c1), (.int c2)] [(.int r0), (.int r1), (.int r2)] [(.int p0), (.int p1), (.int p2)] [(.double d0), (.double d1), (.double d2)] d1 d0 c1 c0 r1 r0 p1 p0 h1423 n0 z1436 f1426 f1427 f1428 f1429 f1431 f1432 f1433 f1434 ⟨by decide, by decide⟩ ⟨by decide, by decide⟩ rfl rfl rfl rfl rfl rfl rfl rfl nd1 nd0) (own_hw hw 78 rfl) (own_hw hw 2 rfl) (by decide) e1442 (by rw [hml]; rfl) [(.int (1 : Int32)), (.int (0 : Int32))] 0 (by decide) (Nat.le_of_eq rfl) (by decide) (by decide) (lenOf own_pd4 rfl) rfl rfl 94 rfl (hb hby own_d7_91) fun v1443 T1443 Lc1443 X1443 hQ1443 => ?_
  obtain ⟨z1443, rfl, Nq1443, e1443, hz1443⟩ := hQ1443
  have N1444 := Fr.app N1440 Nq1443
  rcases hz1443 with rfl | rfl
  ·
    show own_Go _ _ _ _ _ (State.setTop _ (mkF _ 94 #[.val (.ref o), .val (.int (0 : Int32)), .val (.int (1 : Int32)), .val (.int (1 : Int32)), .unset] [(.int (0 : Int32))]))
    refine own_ifYes X1443 hx 109 (hb hby own_d7_94) (by decide) (by decide) rfl ?_
    refine own_iinc X1443 hx 112 rfl (hb hby own_d7_109) rfl #[.val (.ref o), .val (.int (0 : Int32)), .val (.int (1 : Int32)), .val (.int (2 : Int32)), .unset] rfl ?_
    refine own_goto X1443 hx 52 (hb hby own_d7_112) (by decide) rfl ?_
    refine own_iloadN X1443 hx 53 rfl (hb hby own_d7_52) rfl ?_
    refine own_aloadN X1443 hx 54 rfl (hb hby own_d7_53) rfl rfl ?_
    refine own_getF X1443 hx hZ (host := "") hown (Or.inl (own_hw hw 26 rfl)) Via.refl e1443 f1435 57 rfl (hb hby own_d7_54) fun T1445 X1445 e1445 => ?_
    refine own_icmpNo X1445 hx 60 rfl (hb hby own_d7_57) (by decide) ?_
    refine own_iloadN X1445 hx 61 rfl (hb hby own_d7_60) rfl ?_
    refine own_iloadN X1445 hx 62 rfl (hb hby own_d7_61) rfl ?_
    refine own_icmpYes X1445 hx 83 (hb hby own_d7_62) (by decide) (by decide) rfl ?_
    refine own_aloadN X1445 hx 84 rfl (hb hby own_d7_83) rfl rfl ?_
    refine own_iloadN X1445 hx 85 rfl (hb hby own_d7_84) rfl ?_
    refine own_aloadN X1445 hx 86 rfl (hb hby own_d7_85) rfl rfl ?_
    refine own_getF X1445 hx hZ (host := "") hown (Or.inl (own_hw hw 19 rfl)) Via.refl e1445 f1430 89 rfl (hb hby own_d7_86) fun T1446 X1446 e1446 => ?_
    refine own_iconst X1446 hx 90 rfl (hb hby own_d7_89) (0 : Int32) rfl ?_
    refine own_ldI X1446 hx hZ e1446 f1424 ⟨by decide, by decide⟩ (0 : Int32) rfl 91 rfl (hb hby own_d7_90) ?_
    refine own_private X1446 hx hZ (y := (⟨"com/example/prizepath/prizepath/Insertions", "ranksBefore", "(II)Z"⟩ : MethodName)) (z := (⟨"com/example/prizepath/prizepath/Insertions", "clear", "()V"⟩ : MethodName)) hown (own_hw hw 75 rfl) (own_hw hw 76 rfl) rfl (own_hw hw 24 rfl) (own_hw hw 77 rfl) (a := o) f1425 (by decide) (rm_rb l Z a0 hw [] o (2 : Int32) (0 : Int32) a1 a2 a3 a4 k1 k2 k3 k4 [(.int c0), (.int c1), (.int c2)] [(.int r0), (.int r1), (.int r2)] [(.int p0), (.int p1), (.int p2)] [(.double d0), (.double d1), (.double d2)] d2 d0 c2 c0 r2 r0 p2 p0 h1423 n0 z1436 f1426 f1427 f1428 f1429 f1431 f1432 f1433 f1434 ⟨by decide, by decide⟩ ⟨by decide, by decide⟩ rfl rfl rfl rfl rfl rfl rfl rfl nd2 nd0) (own_hw hw 78 rfl) (own_hw hw 2 rfl) (by decide) e1446 (by rw [hml]; rfl) [(.int (2 : Int32)), (.int (0 : Int32))] 0 (by decide) (Nat.le_of_eq rfl) (by decide) (by decide) (lenOf own_pd4 rfl) rfl rfl 94 rfl (hb hby own_d7_91) fun v1447 T1447 Lc1447 X1447 hQ1447 => ?_
    obtain ⟨z1447, rfl, Nq1447, e1447, hz1447⟩ := hQ1447
    have N1448 := Fr.app N1444 Nq1447
    rcases hz1447 with rfl | rfl
    ·
      show own_Go _ _ _ _ _ (State.setTop _ (mkF _ 94 #[.val (.ref o), .val (.int (0 : Int32)), .val (.int (1 : Int32)), .val (.int (2 : Int32)), .unset] [(.int (0 : Int32))]))
      refine own_ifYes X1447 hx 109 (hb hby own_d7_94) (by decide) (by decide) rfl ?_
      refine own_iinc X1447 hx 112 rfl (hb hby own_d7_109) rfl #[.val (.ref o), .val (.int (0 : Int32)), .val (.int (1 : Int32)), .val (.int (3 : Int32)), .unset] rfl ?_
      refine own_goto X1447 hx 52 (hb hby own_d7_112) (by decide) rfl ?_
      refine own_iloadN X1447 hx 53 rfl (hb hby own_d7_52) rfl ?_
      refine own_aloadN X1447 hx 54 rfl (hb hby own_d7_53) rfl rfl ?_
      refine own_getF X1447 hx hZ (host := "") hown (Or.inl (own_hw hw 26 rfl)) Via.refl e1447 f1435 57 rfl (hb hby own_d7_54) fun T1449 X1449 e1449 => ?_
      refine own_icmpYes X1449 hx 115 (hb hby own_d7_57) (by decide) (by decide) rfl ?_
      refine own_aloadN X1449 hx 116 rfl (hb hby own_d7_115) rfl rfl ?_
      refine own_getF X1449 hx hZ (host := "") hown (Or.inl (own_hw hw 19 rfl)) Via.refl e1449 f1430 119 rfl (hb hby own_d7_116) fun T1450 X1450 e1450 => ?_
      refine own_iconst X1450 hx 120 rfl (hb hby own_d7_119) (0 : Int32) rfl ?_
      refine own_ldI X1450 hx hZ e1450 f1424 ⟨by decide, by decide⟩ (0 : Int32) rfl 121 rfl (hb hby own_d7_120) ?_
      refine own_istoreN X1450 hx 122 rfl (hb hby own_d7_121) #[.val (.ref o), .val (.int (0 : Int32)), .val (.int (1 : Int32)), .val (.int (0 : Int32)), .unset] rfl ?_
      refine own_new X1450 hx hZ hown (own_hw hw 53 rfl) (own_hw hw 54 rfl) (own_hw hw 55 rfl) e1450 125 rfl (hb hby own_d7_122) (by decide) (by decide) fun T1451 h1451 b1451 g1451 X1451 e1451 E1451 A1451 D1451 => ?_
      have ne1452 : o ≠ b1451 := Nat.ne_of_lt (Nat.lt_of_lt_of_le f1425.lt (Nat.le_of_eq g1451.symm))
      have ne1453 : a1 ≠ b1451 := Nat.ne_of_lt (Nat.lt_of_lt_of_le f1431.lt (Nat.le_of_eq g1451.symm))
      have ne1454 : a2 ≠ b1451 := Nat.ne_of_lt (Nat.lt_of_lt_of_le f1432.lt (Nat.le_of_eq g1451.symm))
      have ne1455 : a3 ≠ b1451 := Nat.ne_of_lt (Nat.lt_of_lt_of_le f1433.lt (Nat.le_of_eq g1451.symm))
      have ne1456 : a4 ≠ b1451 := Nat.ne_of_lt (Nat.lt_of_lt_of_le f1434.lt (Nat.le_of_eq g1451.symm))
      have ne1457 : a5 ≠ b1451 := Nat.ne_of_lt (Nat.lt_of_lt_of_le f1424.lt (Nat.le_of_eq g1451.symm))
      have ge1458 : n0 ≤ b1451 := Nat.le_trans z1436 (Nat.le_of_eq g1451.symm)
      have sz1459 : h0.size ≤ b1451 := Nat.le_trans K1437.1 (Nat.le_of_eq g1451.symm)
      have f1460 := f1425.ext E1451
      have f1461 := f1426.ext E1451
      have f1462 := f1427.ext E1451
      have f1463 := f1428.ext E1451
      have f1464 := f1429.ext E1451
      have f1465 := f1430.ext E1451
      have f1466 := f1431.ext E1451
      have f1467 := f1432.ext E1451
      have f1468 := f1433.ext E1451
      have f1469 := f1434.ext E1451
      have f1470 := f1435.ext E1451
      have f1471 := f1424.ext E1451
      have z1472 := Nat.le_trans z1436 E1451.1
      have K1473 := K1437.ext E1451
      have f1474 : Fld Z h1451 b1451 "com/example/prizepath/prizepath/Insertions$Insertion" "customer" "I" (.int (0 : Int32)) := D1451 (Or.inr (own_hw hw 66 rfl)) (ty := .int) (by decide)
      have f1475 : Fld Z h1451 b1451 "com/example/prizepath/prizepath/Insertions$Insertion" "route" "I" (.int (0 : Int32)) := D1451 (Or.inr (own_hw hw 68 rfl)) (ty := .int) (by decide)
      have f1476 : Fld Z h1451 b1451 "com/example/prizepath/prizepath/Insertions$Insertion" "place" "I" (.int (0 : Int32)) := D1451 (Or.inr (own_hw hw 70 rfl)) (ty := .int) (by decide)
      refine own_dup X1451 hx 126 rfl (hb hby own_d7_125) rfl ?_
      refine own_aloadN X1451 hx 127 rfl (hb hby own_d7_126) rfl rfl ?_
      refine own_getF X1451 hx hZ (host := "") hown (Or.inl (own_hw hw 10 rfl)) Via.refl e1451 f1461 130 rfl (hb hby own_d7_127) fun T1477 X1477 e1477 => ?_
      refine own_iloadN X1477 hx 131 rfl (hb hby own_d7_130) rfl ?_
      refine own_ldI X1477 hx hZ e1477 f1466 ⟨by decide, by decide⟩ c0 rfl 132 rfl (hb hby own_d7_131) ?_
      refine own_aloadN X1477 hx 133 rfl (hb hby own_d7_132) rfl rfl ?_
      refine own_getF X1477 hx hZ (host := "") hown (Or.inl (own_hw hw 12 rfl)) Via.refl e1477 f1462 136 rfl (hb hby own_d7_133) fun T1478 X1478 e1478 => ?_
      refine own_iloadN X1478 hx 137 rfl (hb hby own_d7_136) rfl ?_
      refine own_ldI X1478 hx hZ e1478 f1467 ⟨by decide, by decide⟩ r0 rfl 138 rfl (hb hby own_d7_137) ?_
      refine own_aloadN X1478 hx 139 rfl (hb hby own_d7_138) rfl rfl ?_
      refine own_getF X1478 hx hZ (host := "") hown (Or.inl (own_hw hw 14 rfl)) Via.refl e1478 f1463 142 rfl (hb hby own_d7_139) fun T1479 X1479 e1479 => ?_
      refine own_iloadN X1479 hx 143 rfl (hb hby own_d7_142) rfl ?_
      refine own_ldI X1479 hx hZ e1479 f1468 ⟨by decide, by decide⟩ p0 rfl 144 rfl (hb hby own_d7_143) ?_
      refine own_special X1479 hx hZ (y := (⟨"com/example/prizepath/prizepath/Insertions$Insertion", "<init>", "(III)V"⟩ : MethodName)) hown rfl (own_hw hw 56 rfl) (own_hw hw 57 rfl) (a := b1451) (by decide) rfl (rm_ins l Z a0 hw [] b1451 c0 r0 p0 h1451 n0 z1472 A1451 f1474 f1475 f1476 ge1458) (own_hw hw 58 rfl) (own_hw hw 55 rfl) (by decide) e1479 (by rw [hml]; rfl) [(.int c0), (.int r0), (.int p0)] 1 (by decide) (Nat.le_of_eq rfl) (by decide) (by decide) (lenOf own_pd8 rfl) rfl rfl 147 rfl (hb hby own_d7_144) fun v1480 T1480 Lc1480 X1480 hQ1480 => ?_
      obtain ⟨rfl, Nq1480, Kq1480, f1481, f1482, f1483, f1484⟩ := hQ1480
      have N1485 := Fr.app N1448 Nq1480
      have f1486 := f1460.keep Kq1480
      have f1487 := f1461.keep Kq1480 (ninS ne1452 nin0)
      have f1488 := f1462.keep Kq1480 (ninS ne1452 nin0)
      have f1489 := f1463.keep Kq1480 (ninS ne1452 nin0)
      have f1490 := f1464.keep Kq1480 (ninS ne1452 nin0)
      have f1491 := f1465.keep Kq1480 (ninS ne1452 nin0)
      have f1492 := f1466.keep Kq1480 (ninS ne1453 nin0)
      have f1493 := f1467.keep Kq1480 (ninS ne1454 nin0)
      have f1494 := f1468.keep Kq1480 (ninS ne1455 nin0)
      have f1495 := f1469.keep Kq1480 (ninS ne1456 nin0)
      have f1496 := f1470.keep Kq1480 (ninS ne1452 nin0)
      have f1497 := f1471.keep Kq1480 (ninS ne1457 nin0)
      have f1498 := A1451.keep Kq1480
      have z1502 := Nat.le_trans z1472 Kq1480.1
      have K1503 := K1473.trans Kq1480 (allS (Or.inr sz1459) all0)
      show own_Go _ _ _ _ _ (State.setTop _ (mkF _ 147 _ [(.ref b1451)]))
      refine own_astore X1480 hx 149 rfl (hb hby own_d7_147) rfl #[.val (.ref o), .val (.int (0 : Int32)), .val (.int (1 : Int32)), .val (.int (0 : Int32)), .val (.ref b1451)] rfl ?_
      refine own_aloadN X1480 hx 150 rfl (hb hby own_d7_149) rfl rfl ?_
      refine own_iloadN X1480 hx 151 rfl (hb hby own_d7_150) rfl ?_
      refine own_private X1480 hx hZ (y := (⟨"com/example/prizepath/prizepath/Insertions", "moveLastTo", "(I)V"⟩ : MethodName)) (z := (⟨"com/example/prizepath/prizepath/Insertions", "clear", "()V"⟩ : MethodName)) hown (own_hw hw 71 rfl) (own_hw hw 72 rfl) rfl (own_hw hw 24 rfl) (own_hw hw 73 rfl) (a := o) f1486 (by decide) (rm_mv30 l Z a0 hw [] o a1 a2 a3 a4 k1 k2 k3 k4 c0 c1 c2 r0 r1 r2 p0 p1 p2 d0 d1 d2 T1480.heap n0 z1502 f1486 f1487 f1488 f1489 f1490 f1492 f1493 f1494 f1495 f1496 g_o g_a1 g_a2 g_a3 g_a4 n_oa1 n_oa2 n_oa3 n_oa4 n_a1a2 n_a1a3 n_a1a4 n_a2a3 n_a2a4 n_a3a4) (own_hw hw 74 rfl) (own_hw hw 2 rfl) (by decide) rfl (by rw [hml]; rfl) [(.int (0 : Int32))] 0 (by decide) (Nat.le_of_eq rfl) (by decide) (by decide) (lenOf own_pd7 rfl) rfl rfl 154 rfl (hb hby own_d7_151) fun v1504 T1504 Lc1504 X1504 hQ1504 => ?_
      obtain ⟨rfl, Nq1504, Kq1504, f1505⟩ := hQ1504
      have N1506 := Fr.app N1485 Nq1504
      have f1507 := f1486.keep Kq1504
      have f1518 := f1497.keep Kq1504 (ninS (Ne.symm n_oa5) (ninS (Ne.symm n_a1a5) (ninS (Ne.symm n_a2a5) (ninS (Ne.symm n_a3a5) (ninS (Ne.symm n_a4a5) nin0)))))
      have f1519 := f1481.keep Kq1504
      have f1520 := f1482.keep Kq1504 (ninS (Ne.symm ne1452) (ninS (Ne.symm ne1453) (ninS (Ne.symm ne1454) (ninS (Ne.symm ne1455) (ninS (Ne.symm ne1456) nin0)))))
      have f1521 := f1483.keep Kq1504 (ninS (Ne.symm ne1452) (ninS (Ne.symm ne1453) (ninS (Ne.symm ne1454) (ninS (Ne.symm ne1455) (ninS (Ne.symm ne1456) nin0)))))
      have f1522 := f1484.keep Kq1504 (ninS (Ne.symm ne1452) (ninS (Ne.symm ne1453) (ninS (Ne.symm ne1454) (ninS (Ne.symm ne1455) (ninS (Ne.symm ne1456) nin0)))))
      have z1523 := Nat.le_trans z1502 Kq1504.1
      have K1524 := K1503.trans Kq1504 (allS (Or.inl (List.mem_of_getElem? (i := 0) rfl)) (allS (Or.inl (List.mem_of_getElem? (i := 1) rfl)) (allS (Or.inl (List.mem_of_getElem? (i := 2) rfl)) (allS (Or.inl (List.mem_of_getElem? (i := 3) rfl)) (allS (Or.inl (List.mem_of_getElem? (i := 4) rfl)) all0)))))
      show own_Go _ _ _ _ _ (State.setTop _ (mkF _ 154 _ []))
      refine own_aload X1504 hx 156 rfl (hb hby own_d7_154) rfl rfl ?_
      refine own_ret X1504 (some (.ref b1451)) (fun h => by rw [Bd.returns] at h; cases h) Bd.notSynchronized (by decide) (by decide) ?_ (fun fs hr => own_retR X1504 hx Bd.returns rfl rfl (hb hby own_d7_156) hr)
      show Q_rm_take30 Z o a1 a2 a3 a4 a5 k1 k2 k3 k4 k5 c0 c1 c2 r0 r1 r2 p0 p1 p2 d0 d1 d2 h0 n0 _ T1504.heap _
      exact ⟨_, rfl, N1506, K1524, f1505⟩
    ·
      show own_Go _ _ _ _ _ (State.setTop _ (mkF _ 94 #[.val (.ref o), .val (.int (0 : Int32)), .val (.int (1 : Int32)), .val (.int (2 : Int32)), .unset] [(.int (1 : Int32))]))
      refine own_ifNo X1447 hx 97 rfl (hb hby own_d7_94) (by decide) ?_
      refine own_aloadN X1447 hx 98 rfl (hb hby own_d7_97) rfl rfl ?_
      refine own_getF X1447 hx hZ (host := "") hown (Or.inl (own_hw hw 19 rfl)) Via.refl e1447 f1430 101 rfl (hb hby own_d7_98) fun T1525 X1525 e1525 => ?_
      refine own_iconst X1525 hx 102 rfl (hb hby own_d7_101) (0 : Int32) rfl ?_
      refine own_iloadN X1525 hx 103 rfl (hb hby own_d7_102) rfl ?_
      refine own_stI X1525 hx hZ e1525 f1424 ⟨by decide, by decide⟩ 0 rfl (Nat.le_of_ble_eq_true rfl) [(.int (2 : Int32))] rfl 104 rfl (hb hby own_d7_103) fun T1526 h1526 X1526 e1526 W1526 f1527 => ?_
      have f1528 := f1425.wr W1526
      have f1529 := f1426.other W1526 (Or.inl n_oa5)
      have f1530 := f1427.other W1526 (Or.inl n_oa5)
      have f1531 := f1428.other W1526 (Or.inl n_oa5)
      have f1532 := f1429.other W1526 (Or.inl n_oa5)
      have f1533 := f1430.other W1526 (Or.inl n_oa5)
      have f1534 := f1431.other W1526 n_a1a5
      have f1535 := f1432.other W1526 n_a2a5
      have f1536 := f1433.other W1526 n_a3a5
      have f1537 := f1434.other W1526 n_a4a5
      have f1538 := f1435.other W1526 (Or.inl n_oa5)
      have z1539 := Nat.le_trans z1436 (Keep.of_wr W1526).1
      have K1540 := K1437.wr W1526 (Or.inl (List.mem_of_getElem? (i := 5) rfl))
      have N1541 := Fr.snoc X1526 N1448 g_a5
      refine own_aloadN X1526 hx 105 rfl (hb hby own_d7_104) rfl rfl ?_
      refine own_iloadN X1526 hx 106 rfl (hb hby own_d7_105) rfl ?_
      refine own_private X1526 hx hZ (y := (⟨"com/example/prizepath/prizepath/Insertions", "siftDown", "(I)V"⟩ : MethodName)) (z := (⟨"com/example/prizepath/prizepath/Insertions", "clear", "()V"⟩ : MethodName)) hown (own_hw hw 87 rfl) (own_hw hw 88 rfl) rfl (own_hw hw 24 rfl) (own_hw hw 89 rfl) (a := o) f1528 (by decide) (rm_dn1 l Z a0 hw [] o h1526 n0 z1539 ) (own_hw hw 90 rfl) (own_hw hw 2 rfl) (by decide) e1526 (by rw [hml]; rfl) [(.int (1 : Int32))] 0 (by decide) (Nat.le_of_eq rfl) (by decide) (by decide) (lenOf own_pd7 rfl) rfl rfl 109 rfl (hb hby own_d7_106) fun v1542 T1542 Lc1542 X1542 hQ1542 => ?_
      obtain ⟨rfl, Nq1542, e1542⟩ := hQ1542
      have N1543 := Fr.app N1541 Nq1542
      show own_Go _ _ _ _ _ (State.setTop _ (mkF _ 109 _ []))
      refine own_iinc X1542 hx 112 rfl (hb hby own_d7_109) rfl #[.val (.ref o), .val (.int (0 : Int32)), .val (.int (1 : Int32)), .val (.int (3 : Int32)), .unset] rfl ?_
      refine own_goto X1542 hx 52 (hb hby own_d7_112) (by decide) rfl ?_
      refine own_iloadN X1542 hx 53 rfl (hb hby own_d7_52) rfl ?_
      refine own_aloadN X1542 hx 54 rfl (hb hby own_d7_53) rfl rfl ?_
      refine own_getF X1542 hx hZ (host := "") hown (Or.inl (own_hw hw 26 rfl)) Via.refl e1542 f1538 57 rfl (hb hby own_d7_54) fun T1544 X1544 e1544 => ?_
      refine own_icmpYes X1544 hx 115 (hb hby own_d7_57) (by decide) (by decide) rfl ?_
      refine own_aloadN X1544 hx 116 rfl (hb hby own_d7_115) rfl rfl ?_
      refine own_getF X1544 hx hZ (host := "") hown (Or.inl (own_hw hw 19 rfl)) Via.refl e1544 f1533 119 rfl (hb hby own_d7_116) fun T1545 X1545 e1545 => ?_
      refine own_iconst X1545 hx 120 rfl (hb hby own_d7_119) (0 : Int32) rfl ?_
      refine own_ldI X1545 hx hZ e1545 f1527 ⟨by decide, by decide⟩ (2 : Int32) rfl 121 rfl (hb hby own_d7_120) ?_
      refine own_istoreN X1545 hx 122 rfl (hb hby own_d7_121) #[.val (.ref o), .val (.int (0 : Int32)), .val (.int (1 : Int32)), .val (.int (2 : Int32)), .unset] rfl ?_
      refine own_new X1545 hx hZ hown (own_hw hw 53 rfl) (own_hw hw 54 rfl) (own_hw hw 55 rfl) e1545 125 rfl (hb hby own_d7_122) (by decide) (by decide) fun T1546 h1546 b1546 g1546 X1546 e1546 E1546 A1546 D1546 => ?_
      have ne1547 : o ≠ b1546 := Nat.ne_of_lt (Nat.lt_of_lt_of_le f1528.lt (Nat.le_of_eq g1546.symm))
      have ne1548 : a1 ≠ b1546 := Nat.ne_of_lt (Nat.lt_of_lt_of_le f1534.lt (Nat.le_of_eq g1546.symm))
      have ne1549 : a2 ≠ b1546 := Nat.ne_of_lt (Nat.lt_of_lt_of_le f1535.lt (Nat.le_of_eq g1546.symm))
      have ne1550 : a3 ≠ b1546 := Nat.ne_of_lt (Nat.lt_of_lt_of_le f1536.lt (Nat.le_of_eq g1546.symm))
      have ne1551 : a4 ≠ b1546 := Nat.ne_of_lt (Nat.lt_of_lt_of_le f1537.lt (Nat.le_of_eq g1546.symm))
      have ne1552 : a5 ≠ b1546 := Nat.ne_of_lt (Nat.lt_of_lt_of_le f1527.lt (Nat.le_of_eq g1546.symm))
      have ge1553 : n0 ≤ b1546 := Nat.le_trans z1539 (Nat.le_of_eq g1546.symm)
      have sz1554 : h0.size ≤ b1546 := Nat.le_trans K1540.1 (Nat.le_of_eq g1546.symm)
      have f1555 := f1528.ext E1546
      have f1556 := f1529.ext E1546
      have f1557 := f1530.ext E1546
      have f1558 := f1531.ext E1546
      have f1559 := f1532.ext E1546
      have f1560 := f1533.ext E1546
      have f1561 := f1534.ext E1546
      have f1562 := f1535.ext E1546
      have f1563 := f1536.ext E1546
      have f1564 := f1537.ext E1546
      have f1565 := f1538.ext E1546
      have f1566 := f1527.ext E1546
      have z1567 := Nat.le_trans z1539 E1546.1
      have K1568 := K1540.ext E1546
      have f1569 : Fld Z h1546 b1546 "com/example/prizepath/prizepath/Insertions$Insertion" "customer" "I" (.int (0 : Int32)) := D1546 (Or.inr (own_hw hw 66 rfl)) (ty := .int) (by decide)
      have f1570 : Fld Z h1546 b1546 "com/example/prizepath/prizepath/Insertions$Insertion" "route" "I" (.int (0 : Int32)) := D1546 (Or.inr (own_hw hw 68 rfl)) (ty := .int) (by decide)
      have f1571 : Fld Z h1546 b1546 "com/example/prizepath/prizepath/Insertions$Insertion" "place" "I" (.int (0 : Int32)) := D1546 (Or.inr (own_hw hw 70 rfl)) (ty := .int) (by decide)
      refine own_dup X1546 hx 126 rfl (hb hby own_d7_125) rfl ?_
      refine own_aloadN X1546 hx 127 rfl (hb hby own_d7_126) rfl rfl ?_
      refine own_getF X1546 hx hZ (host := "") hown (Or.inl (own_hw hw 10 rfl)) Via.refl e1546 f1556 130 rfl (hb hby own_d7_127) fun T1572 X1572 e1572 => ?_
      refine own_iloadN X1572 hx 131 rfl (hb hby own_d7_130) rfl ?_
      refine own_ldI X1572 hx hZ e1572 f1561 ⟨by decide, by decide⟩ c2 rfl 132 rfl (hb hby own_d7_131) ?_
      refine own_aloadN X1572 hx 133 rfl (hb hby own_d7_132) rfl rfl ?_
      refine own_getF X1572 hx hZ (host := "") hown (Or.inl (own_hw hw 12 rfl)) Via.refl e1572 f1557 136 rfl (hb hby own_d7_133) fun T1573 X1573 e1573 => ?_
      refine own_iloadN X1573 hx 137 rfl (hb hby own_d7_136) rfl ?_
      refine own_ldI X1573 hx hZ e1573 f1562 ⟨by decide, by decide⟩ r2 rfl 138 rfl (hb hby own_d7_137) ?_
      refine own_aloadN X1573 hx 139 rfl (hb hby own_d7_138) rfl rfl ?_
      refine own_getF X1573 hx hZ (host := "") hown (Or.inl (own_hw hw 14 rfl)) Via.refl e1573 f1558 142 rfl (hb hby own_d7_139) fun T1574 X1574 e1574 => ?_
      refine own_iloadN X1574 hx 143 rfl (hb hby own_d7_142) rfl ?_
      refine own_ldI X1574 hx hZ e1574 f1563 ⟨by decide, by decide⟩ p2 rfl 144 rfl (hb hby own_d7_143) ?_
      refine own_special X1574 hx hZ (y := (⟨"com/example/prizepath/prizepath/Insertions$Insertion", "<init>", "(III)V"⟩ : MethodName)) hown rfl (own_hw hw 56 rfl) (own_hw hw 57 rfl) (a := b1546) (by decide) rfl (rm_ins l Z a0 hw [] b1546 c2 r2 p2 h1546 n0 z1567 A1546 f1569 f1570 f1571 ge1553) (own_hw hw 58 rfl) (own_hw hw 55 rfl) (by decide) e1574 (by rw [hml]; rfl) [(.int c2), (.int r2), (.int p2)] 1 (by decide) (Nat.le_of_eq rfl) (by decide) (by decide) (lenOf own_pd8 rfl) rfl rfl 147 rfl (hb hby own_d7_144) fun v1575 T1575 Lc1575 X1575 hQ1575 => ?_
      obtain ⟨rfl, Nq1575, Kq1575, f1576, f1577, f1578, f1579⟩ := hQ1575
      have N1580 := Fr.app N1543 Nq1575
      have f1581 := f1555.keep Kq1575
      have f1582 := f1556.keep Kq1575 (ninS ne1547 nin0)
      have f1583 := f1557.keep Kq1575 (ninS ne1547 nin0)
      have f1584 := f1558.keep Kq1575 (ninS ne1547 nin0)
      have f1585 := f1559.keep Kq1575 (ninS ne1547 nin0)
      have f1586 := f1560.keep Kq1575 (ninS ne1547 nin0)
      have f1587 := f1561.keep Kq1575 (ninS ne1548 nin0)
      have f1588 := f1562.keep Kq1575 (ninS ne1549 nin0)
      have f1589 := f1563.keep Kq1575 (ninS ne1550 nin0)
      have f1590 := f1564.keep Kq1575 (ninS ne1551 nin0)
      have f1591 := f1565.keep Kq1575 (ninS ne1547 nin0)
      have f1592 := f1566.keep Kq1575 (ninS ne1552 nin0)
      have f1593 := A1546.keep Kq1575
      have z1597 := Nat.le_trans z1567 Kq1575.1
      have K1598 := K1568.trans Kq1575 (allS (Or.inr sz1554) all0)
      show own_Go _ _ _ _ _ (State.setTop _ (mkF _ 147 _ [(.ref b1546)]))
      refine own_astore X1575 hx 149 rfl (hb hby own_d7_147) rfl #[.val (.ref o), .val (.int (0 : Int32)), .val (.int (1 : Int32)), .val (.int (2 : Int32)), .val (.ref b1546)] rfl ?_
      refine own_aloadN X1575 hx 150 rfl (hb hby own_d7_149) rfl rfl ?_
      refine own_iloadN X1575 hx 151 rfl (hb hby own_d7_150) rfl ?_
      refine own_private X1575 hx hZ (y := (⟨"com/example/prizepath/prizepath/Insertions", "moveLastTo", "(I)V"⟩ : MethodName)) (z := (⟨"com/example/prizepath/prizepath/Insertions", "clear", "()V"⟩ : MethodName)) hown (own_hw hw 71 rfl) (own_hw hw 72 rfl) rfl (own_hw hw 24 rfl) (own_hw hw 73 rfl) (a := o) f1581 (by decide) (rm_mv32 l Z a0 hw [] o a1 a2 a3 a4 k1 k2 k3 k4 c0 c1 c2 r0 r1 r2 p0 p1 p2 d0 d1 d2 T1575.heap n0 z1597 f1581 f1582 f1583 f1584 f1585 f1587 f1588 f1589 f1590 f1591 g_o g_a1 g_a2 g_a3 g_a4 n_oa1 n_oa2 n_oa3 n_oa4 n_a1a2 n_a1a3 n_a1a4 n_a2a3 n_a2a4 n_a3a4) (own_hw hw 74 rfl) (own_hw hw 2 rfl) (by decide) rfl (by rw [hml]; rfl) [(.int (2 : Int32))] 0 (by decide) (Nat.le_of_eq rfl) (by decide) (by decide) (lenOf own_pd7 rfl) rfl rfl 154 rfl (hb hby own_d7_151) fun v1599 T1599 Lc1599 X1599 hQ1599 => ?_
      obtain ⟨rfl, Nq1599, Kq1599, f1600⟩ := hQ1599
      have N1601 := Fr.app N1580 Nq1599
      have f1602 := f1581.keep Kq1599
      have f1613 := f1592.keep Kq1599 (ninS (Ne.symm n_oa5) (ninS (Ne.symm n_a1a5) (ninS (Ne.symm n_a2a5) (ninS (Ne.symm n_a3a5) (ninS (Ne.symm n_a4a5) nin0)))))
      have f1614 := f1576.keep Kq1599
      have f1615 := f1577.keep Kq1599 (ninS (Ne.symm ne1547) (ninS (Ne.symm ne1548) (ninS (Ne.symm ne1549) (ninS (Ne.symm ne1550) (ninS (Ne.symm ne1551) nin0)))))
      have f1616 := f1578.keep Kq1599 (ninS (Ne.symm ne1547) (ninS (Ne.symm ne1548) (ninS (Ne.symm ne1549) (ninS (Ne.symm ne1550) (ninS (Ne.symm ne1551) nin0)))))
      have f1617 := f1579.keep Kq1599 (ninS (Ne.symm ne1547) (ninS (Ne.symm ne1548) (ninS (Ne.symm ne1549) (ninS (Ne.symm ne1550) (ninS (Ne.symm ne1551) nin0)))))
      have z1618 := Nat.le_trans z1597 Kq1599.1
      have K1619 := K1598.trans Kq1599 (allS (Or.inl (List.mem_of_getElem? (i := 0) rfl)) (allS (Or.inl (List.mem_of_getElem? (i := 1) rfl)) (allS (Or.inl (List.mem_of_getElem? (i := 2) rfl)) (allS (Or.inl (List.mem_of_getElem? (i := 3) rfl)) (allS (Or.inl (List.mem_of_getElem? (i := 4) rfl)) all0)))))
      show own_Go _ _ _ _ _ (State.setTop _ (mkF _ 154 _ []))
      refine own_aload X1599 hx 156 rfl (hb hby own_d7_154) rfl rfl ?_
      refine own_ret X1599 (some (.ref b1546)) (fun h => by rw [Bd.returns] at h; cases h) Bd.notSynchronized (by decide) (by decide) ?_ (fun fs hr => own_retR X1599 hx Bd.returns rfl rfl (hb hby own_d7_156) hr)
      show Q_rm_take30 Z o a1 a2 a3 a4 a5 k1 k2 k3 k4 k5 c0 c1 c2 r0 r1 r2 p0 p1 p2 d0 d1 d2 h0 n0 _ T1599.heap _
      exact ⟨_, rfl, N1601, K1619, f1600⟩
  ·
    show own_Go _ _ _ _ _ (State.setTop _ (mkF _ 94 #[.val (.ref o), .val (.int (0 : Int32)), .val (.int (1 : Int32)), .val (.int (1 : Int32)), .unset] [(.int (1 : Int32))]))
    refine own_ifNo X1443 hx 97 rfl (hb hby own_d7_94) (by decide) ?_
    refine own_aloadN X1443 hx 98 rfl (hb hby own_d7_97) rfl rfl ?_
    refine own_getF X1443 hx hZ (host := "") hown (Or.inl (own_hw hw 19 rfl)) Via.refl e1443 f1430 101 rfl (hb hby own_d7_98) fun T1620 X1620 e1620 => ?_
    refine own_iconst X1620 hx 102 rfl (hb hby own_d7_101) (0 : Int32) rfl ?_
    refine own_iloadN X1620 hx 103 rfl (hb hby own_d7_102) rfl ?_
    refine own_stI X1620 hx hZ e1620 f1424 ⟨by decide, by decide⟩ 0 rfl (Nat.le_of_ble_eq_true rfl) [(.int (1 : Int32))] rfl 104 rfl (hb hby own_d7_103) fun T1621 h1621 X1621 e1621 W1621 f1622 => ?_
    have f1623 := f1425.wr W1621
    have f1624 := f1426.other W1621 (Or.inl n_oa5)
    have f1625 := f1427.other W1621 (Or.inl n_oa5)
    have f1626 := f1428.other W1621 (Or.inl n_oa5)
    have f1627 := f1429.other W1621 (Or.inl n_oa5)
    have f1628 := f1430.other W1621 (Or.inl n_oa5)
    have f1629 := f1431.other W1621 n_a1a5
    have f1630 := f1432.other W1621 n_a2a5
    have f1631 := f1433.other W1621 n_a3a5
    have f1632 := f1434.other W1621 n_a4a5
    have f1633 := f1435.other W1621 (Or.inl n_oa5)
    have z1634 := Nat.le_trans z1436 (Keep.of_wr W1621).1
    have K1635 := K1437.wr W1621 (Or.inl (List.mem_of_getElem? (i := 5) rfl))
    have N1636 := Fr.snoc X1621 N1444 g_a5
    refine own_aloadN X1621 hx 105 rfl (hb hby own_d7_104) rfl rfl ?_
    refine own_iloadN X1621 hx 106 rfl (hb hby own_d7_105) rfl ?_
    refine own_private X1621 hx hZ (y := (⟨"com/example/prizepath/prizepath/Insertions", "siftDown", "(I)V"⟩ : MethodName)) (z := (⟨"com/example/prizepath/prizepath/Insertions", "clear", "()V"⟩ : MethodName)) hown (own_hw hw 87 rfl) (own_hw hw 88 rfl) rfl (own_hw hw 24 rfl) (own_hw hw 89 rfl) (a := o) f1623 (by decide) (rm_dn1 l Z a0 hw [] o h1621 n0 z1634 ) (own_hw hw 90 rfl) (own_hw hw 2 rfl) (by decide) e1621 (by rw [hml]; rfl) [(.int (1 : Int32))] 0 (by decide) (Nat.le_of_eq rfl) (by decide) (by decide) (lenOf own_pd7 rfl) rfl rfl 109 rfl (hb hby own_d7_106) fun v1637 T1637 Lc1637 X1637 hQ1637 => ?_
    obtain ⟨rfl, Nq1637, e1637⟩ := hQ1637
    have N1638 := Fr.app N1636 Nq1637
    show own_Go _ _ _ _ _ (State.setTop _ (mkF _ 109 _ []))
    refine own_iinc X1637 hx 112 rfl (hb hby own_d7_109) rfl #[.val (.ref o), .val (.int (0 : Int32)), .val (.int (1 : Int32)), .val (.int (2 : Int32)), .unset] rfl ?_
    refine own_goto X1637 hx 52 (hb hby own_d7_112) (by decide) rfl ?_
    refine own_iloadN X1637 hx 53 rfl (hb hby own_d7_52) rfl ?_
    refine own_aloadN X1637 hx 54 rfl (hb hby own_d7_53) rfl rfl ?_
    refine own_getF X1637 hx hZ (host := "") hown (Or.inl (own_hw hw 26 rfl)) Via.refl e1637 f1633 57 rfl (hb hby own_d7_54) fun T1639 X1639 e1639 => ?_
    refine own_icmpNo X1639 hx 60 rfl (hb hby own_d7_57) (by decide) ?_
    refine own_iloadN X1639 hx 61 rfl (hb hby own_d7_60) rfl ?_
    refine own_iloadN X1639 hx 62 rfl (hb hby own_d7_61) rfl ?_
    refine own_icmpYes X1639 hx 83 (hb hby own_d7_62) (by decide) (by decide) rfl ?_
    refine own_aloadN X1639 hx 84 rfl (hb hby own_d7_83) rfl rfl ?_
    refine own_iloadN X1639 hx 85 rfl (hb hby own_d7_84) rfl ?_
    refine own_aloadN X1639 hx 86 rfl (hb hby own_d7_85) rfl rfl ?_
    refine own_getF X1639 hx hZ (host := "") hown (Or.inl (own_hw hw 19 rfl)) Via.refl e1639 f1628 89 rfl (hb hby own_d7_86) fun T1640 X1640 e1640 => ?_
    refine own_iconst X1640 hx 90 rfl (hb hby own_d7_89) (0 : Int32) rfl ?_
    refine own_ldI X1640 hx hZ e1640 f1622 ⟨by decide, by decide⟩ (1 : Int32) rfl 91 rfl (hb hby own_d7_90) ?_
    refine own_private X1640 hx hZ (y := (⟨"com/example/prizepath/prizepath/Insertions", "ranksBefore", "(II)Z"⟩ : MethodName)) (z := (⟨"com/example/prizepath/prizepath/Insertions", "clear", "()V"⟩ : MethodName)) hown (own_hw hw 75 rfl) (own_hw hw 76 rfl) rfl (own_hw hw 24 rfl) (own_hw hw 77 rfl) (a := o) f1623 (by decide) (rm_rb l Z a0 hw [] o (2 : Int32) (1 : Int32) a1 a2 a3 a4 k1 k2 k3 k4 [(.int c0), (.int c1), (.int c2)] [(.int r0), (.int r1), (.int r2)] [(.int p0), (.int p1), (.int p2)] [(.double d0), (.double d1), (.double d2)] d2 d1 c2 c1 r2 r1 p2 p1 h1621 n0 z1634 f1624 f1625 f1626 f1627 f1629 f1630 f1631 f1632 ⟨by decide, by decide⟩ ⟨by decide, by decide⟩ rfl rfl rfl rfl rfl rfl rfl rfl nd2 nd1) (own_hw hw 78 rfl) (own_hw hw 2 rfl) (by decide) e1640 (by rw [hml]; rfl) [(.int (2 : Int32)), (.int (1 : Int32))] 0 (by decide) (Nat.le_of_eq rfl) (by decide) (by decide) (lenOf own_pd4 rfl) rfl rfl 94 rfl (hb hby own_d7_91) fun v1641 T1641 Lc1641 X1641 hQ1641 => ?_
    obtain ⟨z1641, rfl, Nq1641, e1641, hz1641⟩ := hQ1641
    have N1642 := Fr.app N1638 Nq1641
    rcases hz1641 with rfl | rfl
    ·
      show own_Go _ _ _ _ _ (State.setTop _ (mkF _ 94 #[.val (.ref o), .val (.int (0 : Int32)), .val (.int (1 : Int32)), .val (.int (2 : Int32)), .unset] [(.int (0 : Int32))]))
      refine own_ifYes X1641 hx 109 (hb hby own_d7_94) (by decide) (by decide) rfl ?_
      refine own_iinc X1641 hx 112 rfl (hb hby own_d7_109) rfl #[.val (.ref o), .val (.int (0 : Int32)), .val (.int (1 : Int32)), .val (.int (3 : Int32)), .unset] rfl ?_
      refine own_goto X1641 hx 52 (hb hby own_d7_112) (by decide) rfl ?_
      refine own_iloadN X1641 hx 53 rfl (hb hby own_d7_52) rfl ?_
      refine own_aloadN X1641 hx 54 rfl (hb hby own_d7_53) rfl rfl ?_
      refine own_getF X1641 hx hZ (host := "") hown (Or.inl (own_hw hw 26 rfl)) Via.refl e1641 f1633 57 rfl (hb hby own_d7_54) fun T1643 X1643 e1643 => ?_
      refine own_icmpYes X1643 hx 115 (hb hby own_d7_57) (by decide) (by decide) rfl ?_
      refine own_aloadN X1643 hx 116 rfl (hb hby own_d7_115) rfl rfl ?_
      refine own_getF X1643 hx hZ (host := "") hown (Or.inl (own_hw hw 19 rfl)) Via.refl e1643 f1628 119 rfl (hb hby own_d7_116) fun T1644 X1644 e1644 => ?_
      refine own_iconst X1644 hx 120 rfl (hb hby own_d7_119) (0 : Int32) rfl ?_
      refine own_ldI X1644 hx hZ e1644 f1622 ⟨by decide, by decide⟩ (1 : Int32) rfl 121 rfl (hb hby own_d7_120) ?_
      refine own_istoreN X1644 hx 122 rfl (hb hby own_d7_121) #[.val (.ref o), .val (.int (0 : Int32)), .val (.int (1 : Int32)), .val (.int (1 : Int32)), .unset] rfl ?_
      refine own_new X1644 hx hZ hown (own_hw hw 53 rfl) (own_hw hw 54 rfl) (own_hw hw 55 rfl) e1644 125 rfl (hb hby own_d7_122) (by decide) (by decide) fun T1645 h1645 b1645 g1645 X1645 e1645 E1645 A1645 D1645 => ?_
      have ne1646 : o ≠ b1645 := Nat.ne_of_lt (Nat.lt_of_lt_of_le f1623.lt (Nat.le_of_eq g1645.symm))
      have ne1647 : a1 ≠ b1645 := Nat.ne_of_lt (Nat.lt_of_lt_of_le f1629.lt (Nat.le_of_eq g1645.symm))
      have ne1648 : a2 ≠ b1645 := Nat.ne_of_lt (Nat.lt_of_lt_of_le f1630.lt (Nat.le_of_eq g1645.symm))
      have ne1649 : a3 ≠ b1645 := Nat.ne_of_lt (Nat.lt_of_lt_of_le f1631.lt (Nat.le_of_eq g1645.symm))
      have ne1650 : a4 ≠ b1645 := Nat.ne_of_lt (Nat.lt_of_lt_of_le f1632.lt (Nat.le_of_eq g1645.symm))
      have ne1651 : a5 ≠ b1645 := Nat.ne_of_lt (Nat.lt_of_lt_of_le f1622.lt (Nat.le_of_eq g1645.symm))
      have ge1652 : n0 ≤ b1645 := Nat.le_trans z1634 (Nat.le_of_eq g1645.symm)
      have sz1653 : h0.size ≤ b1645 := Nat.le_trans K1635.1 (Nat.le_of_eq g1645.symm)
      have f1654 := f1623.ext E1645
      have f1655 := f1624.ext E1645
      have f1656 := f1625.ext E1645
      have f1657 := f1626.ext E1645
      have f1658 := f1627.ext E1645
      have f1659 := f1628.ext E1645
      have f1660 := f1629.ext E1645
      have f1661 := f1630.ext E1645
      have f1662 := f1631.ext E1645
      have f1663 := f1632.ext E1645
      have f1664 := f1633.ext E1645
      have f1665 := f1622.ext E1645
      have z1666 := Nat.le_trans z1634 E1645.1
      have K1667 := K1635.ext E1645
      have f1668 : Fld Z h1645 b1645 "com/example/prizepath/prizepath/Insertions$Insertion" "customer" "I" (.int (0 : Int32)) := D1645 (Or.inr (own_hw hw 66 rfl)) (ty := .int) (by decide)
      have f1669 : Fld Z h1645 b1645 "com/example/prizepath/prizepath/Insertions$Insertion" "route" "I" (.int (0 : Int32)) := D1645 (Or.inr (own_hw hw 68 rfl)) (ty := .int) (by decide)
      have f1670 : Fld Z h1645 b1645 "com/example/prizepath/prizepath/Insertions$Insertion" "place" "I" (.int (0 : Int32)) := D1645 (Or.inr (own_hw hw 70 rfl)) (ty := .int) (by decide)
      refine own_dup X1645 hx 126 rfl (hb hby own_d7_125) rfl ?_
      refine own_aloadN X1645 hx 127 rfl (hb hby own_d7_126) rfl rfl ?_
      refine own_getF X1645 hx hZ (host := "") hown (Or.inl (own_hw hw 10 rfl)) Via.refl e1645 f1655 130 rfl (hb hby own_d7_127) fun T1671 X1671 e1671 => ?_
      refine own_iloadN X1671 hx 131 rfl (hb hby own_d7_130) rfl ?_
      refine own_ldI X1671 hx hZ e1671 f1660 ⟨by decide, by decide⟩ c1 rfl 132 rfl (hb hby own_d7_131) ?_
      refine own_aloadN X1671 hx 133 rfl (hb hby own_d7_132) rfl rfl ?_
      refine own_getF X1671 hx hZ (host := "") hown (Or.inl (own_hw hw 12 rfl)) Via.refl e1671 f1656 136 rfl (hb hby own_d7_133) fun T1672 X1672 e1672 => ?_
      refine own_iloadN X1672 hx 137 rfl (hb hby own_d7_136) rfl ?_
      refine own_ldI X1672 hx hZ e1672 f1661 ⟨by decide, by decide⟩ r1 rfl 138 rfl (hb hby own_d7_137) ?_
      refine own_aloadN X1672 hx 139 rfl (hb hby own_d7_138) rfl rfl ?_
      refine own_getF X1672 hx hZ (host := "") hown (Or.inl (own_hw hw 14 rfl)) Via.refl e1672 f1657 142 rfl (hb hby own_d7_139) fun T1673 X1673 e1673 => ?_
      refine own_iloadN X1673 hx 143 rfl (hb hby own_d7_142) rfl ?_
      refine own_ldI X1673 hx hZ e1673 f1662 ⟨by decide, by decide⟩ p1 rfl 144 rfl (hb hby own_d7_143) ?_
      refine own_special X1673 hx hZ (y := (⟨"com/example/prizepath/prizepath/Insertions$Insertion", "<init>", "(III)V"⟩ : MethodName)) hown rfl (own_hw hw 56 rfl) (own_hw hw 57 rfl) (a := b1645) (by decide) rfl (rm_ins l Z a0 hw [] b1645 c1 r1 p1 h1645 n0 z1666 A1645 f1668 f1669 f1670 ge1652) (own_hw hw 58 rfl) (own_hw hw 55 rfl) (by decide) e1673 (by rw [hml]; rfl) [(.int c1), (.int r1), (.int p1)] 1 (by decide) (Nat.le_of_eq rfl) (by decide) (by decide) (lenOf own_pd8 rfl) rfl rfl 147 rfl (hb hby own_d7_144) fun v1674 T1674 Lc1674 X1674 hQ1674 => ?_
      obtain ⟨rfl, Nq1674, Kq1674, f1675, f1676, f1677, f1678⟩ := hQ1674
      have N1679 := Fr.app N1642 Nq1674
      have f1680 := f1654.keep Kq1674
      have f1681 := f1655.keep Kq1674 (ninS ne1646 nin0)
      have f1682 := f1656.keep Kq1674 (ninS ne1646 nin0)
      have f1683 := f1657.keep Kq1674 (ninS ne1646 nin0)
      have f1684 := f1658.keep Kq1674 (ninS ne1646 nin0)
      have f1685 := f1659.keep Kq1674 (ninS ne1646 nin0)
      have f1686 := f1660.keep Kq1674 (ninS ne1647 nin0)
      have f1687 := f1661.keep Kq1674 (ninS ne1648 nin0)
      have f1688 := f1662.keep Kq1674 (ninS ne1649 nin0)
      have f1689 := f1663.keep Kq1674 (ninS ne1650 nin0)
      have f1690 := f1664.keep Kq1674 (ninS ne1646 nin0)
      have f1691 := f1665.keep Kq1674 (ninS ne1651 nin0)
      have f1692 := A1645.keep Kq1674
      have z1696 := Nat.le_trans z1666 Kq1674.1
      have K1697 := K1667.trans Kq1674 (allS (Or.inr sz1653) all0)
      show own_Go _ _ _ _ _ (State.setTop _ (mkF _ 147 _ [(.ref b1645)]))
      refine own_astore X1674 hx 149 rfl (hb hby own_d7_147) rfl #[.val (.ref o), .val (.int (0 : Int32)), .val (.int (1 : Int32)), .val (.int (1 : Int32)), .val (.ref b1645)] rfl ?_
      refine own_aloadN X1674 hx 150 rfl (hb hby own_d7_149) rfl rfl ?_
      refine own_iloadN X1674 hx 151 rfl (hb hby own_d7_150) rfl ?_
      refine own_private X1674 hx hZ (y := (⟨"com/example/prizepath/prizepath/Insertions", "moveLastTo", "(I)V"⟩ : MethodName)) (z := (⟨"com/example/prizepath/prizepath/Insertions", "clear", "()V"⟩ : MethodName)) hown (own_hw hw 71 rfl) (own_hw hw 72 rfl) rfl (own_hw hw 24 rfl) (own_hw hw 73 rfl) (a := o) f1680 (by decide) (rm_mv31 l Z a0 hw [] o a1 a2 a3 a4 k1 k2 k3 k4 c0 c1 c2 r0 r1 r2 p0 p1 p2 d0 d1 d2 T1674.heap n0 z1696 f1680 f1681 f1682 f1683 f1684 f1686 f1687 f1688 f1689 f1690 g_o g_a1 g_a2 g_a3 g_a4 n_oa1 n_oa2 n_oa3 n_oa4 n_a1a2 n_a1a3 n_a1a4 n_a2a3 n_a2a4 n_a3a4) (own_hw hw 74 rfl) (own_hw hw 2 rfl) (by decide) rfl (by rw [hml]; rfl) [(.int (1 : Int32))] 0 (by decide) (Nat.le_of_eq rfl) (by decide) (by decide) (lenOf own_pd7 rfl) rfl rfl 154 rfl (hb hby own_d7_151) fun v1698 T1698 Lc1698 X1698 hQ1698 => ?_
      obtain ⟨rfl, Nq1698, Kq1698, f1699⟩ := hQ1698
      have N1700 := Fr.app N1679 Nq1698
      have f1701 := f1680.keep Kq1698
      have f1712 := f1691.keep Kq1698 (ninS (Ne.symm n_oa5) (ninS (Ne.symm n_a1a5) (ninS (Ne.symm n_a2a5) (ninS (Ne.symm n_a3a5) (ninS (Ne.symm n_a4a5) nin0)))))
      have f1713 := f1675.keep Kq1698
      have f1714 := f1676.keep Kq1698 (ninS (Ne.symm ne1646) (ninS (Ne.symm ne1647) (ninS (Ne.symm ne1648) (ninS (Ne.symm ne1649) (ninS (Ne.symm ne1650) nin0)))))
      have f1715 := f1677.keep Kq1698 (ninS (Ne.symm ne1646) (ninS (Ne.symm ne1647) (ninS (Ne.symm ne1648) (ninS (Ne.symm ne1649) (ninS (Ne.symm ne1650) nin0)))))
      have f1716 := f1678.keep Kq1698 (ninS (Ne.symm ne1646) (ninS (Ne.symm ne1647) (ninS (Ne.symm ne1648) (ninS (Ne.symm ne1649) (ninS (Ne.symm ne1650) nin0)))))
      have z1717 := Nat.le_trans z1696 Kq1698.1
      have K1718 := K1697.trans Kq1698 (allS (Or.inl (List.mem_of_getElem? (i := 0) rfl)) (allS (Or.inl (List.mem_of_getElem? (i := 1) rfl)) (allS (Or.inl (List.mem_of_getElem? (i := 2) rfl)) (allS (Or.inl (List.mem_of_getElem? (i := 3) rfl)) (allS (Or.inl (List.mem_of_getElem? (i := 4) rfl)) all0)))))
      show own_Go _ _ _ _ _ (State.setTop _ (mkF _ 154 _ []))
      refine own_aload X1698 hx 156 rfl (hb hby own_d7_154) rfl rfl ?_
      refine own_ret X1698 (some (.ref b1645)) (fun h => by rw [Bd.returns] at h; cases h) Bd.notSynchronized (by decide) (by decide) ?_ (fun fs hr => own_retR X1698 hx Bd.returns rfl rfl (hb hby own_d7_156) hr)
      show Q_rm_take30 Z o a1 a2 a3 a4 a5 k1 k2 k3 k4 k5 c0 c1 c2 r0 r1 r2 p0 p1 p2 d0 d1 d2 h0 n0 _ T1698.heap _
      exact ⟨_, rfl, N1700, K1718, f1699⟩
    ·
      show own_Go _ _ _ _ _ (State.setTop _ (mkF _ 94 #[.val (.ref o), .val (.int (0 : Int32)), .val (.int (1 : Int32)), .val (.int (2 : Int32)), .unset] [(.int (1 : Int32))]))
      refine own_ifNo X1641 hx 97 rfl (hb hby own_d7_94) (by decide) ?_
      refine own_aloadN X1641 hx 98 rfl (hb hby own_d7_97) rfl rfl ?_
      refine own_getF X1641 hx hZ (host := "") hown (Or.inl (own_hw hw 19 rfl)) Via.refl e1641 f1628 101 rfl (hb hby own_d7_98) fun T1719 X1719 e1719 => ?_
      refine own_iconst X1719 hx 102 rfl (hb hby own_d7_101) (0 : Int32) rfl ?_
      refine own_iloadN X1719 hx 103 rfl (hb hby own_d7_102) rfl ?_
      refine own_stI X1719 hx hZ e1719 f1622 ⟨by decide, by decide⟩ 0 rfl (Nat.le_of_ble_eq_true rfl) [(.int (2 : Int32))] rfl 104 rfl (hb hby own_d7_103) fun T1720 h1720 X1720 e1720 W1720 f1721 => ?_
      have f1722 := f1623.wr W1720
      have f1723 := f1624.other W1720 (Or.inl n_oa5)
      have f1724 := f1625.other W1720 (Or.inl n_oa5)
      have f1725 := f1626.other W1720 (Or.inl n_oa5)
      have f1726 := f1627.other W1720 (Or.inl n_oa5)
      have f1727 := f1628.other W1720 (Or.inl n_oa5)
      have f1728 := f1629.other W1720 n_a1a5
      have f1729 := f1630.other W1720 n_a2a5
      have f1730 := f1631.other W1720 n_a3a5
      have f1731 := f1632.other W1720 n_a4a5
      have f1732 := f1633.other W1720 (Or.inl n_oa5)
      have z1733 := Nat.le_trans z1634 (Keep.of_wr W1720).1
      have K1734 := K1635.wr W1720 (Or.inl (List.mem_of_getElem? (i := 5) rfl))
      have N1735 := Fr.snoc X1720 N1642 g_a5
      refine own_aloadN X1720 hx 105 rfl (hb hby own_d7_104) rfl rfl ?_
      refine own_iloadN X1720 hx 106 rfl (hb hby own_d7_105) rfl ?_
      refine own_private X1720 hx hZ (y := (⟨"com/example/prizepath/prizepath/Insertions", "siftDown", "(I)V"⟩ : MethodName)) (z := (⟨"com/example/prizepath/prizepath/Insertions", "clear", "()V"⟩ : MethodName)) hown (own_hw hw 87 rfl) (own_hw hw 88 rfl) rfl (own_hw hw 24 rfl) (own_hw hw 89 rfl) (a := o) f1722 (by decide) (rm_dn1 l Z a0 hw [] o h1720 n0 z1733 ) (own_hw hw 90 rfl) (own_hw hw 2 rfl) (by decide) e1720 (by rw [hml]; rfl) [(.int (1 : Int32))] 0 (by decide) (Nat.le_of_eq rfl) (by decide) (by decide) (lenOf own_pd7 rfl) rfl rfl 109 rfl (hb hby own_d7_106) fun v1736 T1736 Lc1736 X1736 hQ1736 => ?_
      obtain ⟨rfl, Nq1736, e1736⟩ := hQ1736
      have N1737 := Fr.app N1735 Nq1736
      show own_Go _ _ _ _ _ (State.setTop _ (mkF _ 109 _ []))
      refine own_iinc X1736 hx 112 rfl (hb hby own_d7_109) rfl #[.val (.ref o), .val (.int (0 : Int32)), .val (.int (1 : Int32)), .val (.int (3 : Int32)), .unset] rfl ?_
      refine own_goto X1736 hx 52 (hb hby own_d7_112) (by decide) rfl ?_
      refine own_iloadN X1736 hx 53 rfl (hb hby own_d7_52) rfl ?_
      refine own_aloadN X1736 hx 54 rfl (hb hby own_d7_53) rfl rfl ?_
      refine own_getF X1736 hx hZ (host := "") hown (Or.inl (own_hw hw 26 rfl)) Via.refl e1736 f1732 57 rfl (hb hby own_d7_54) fun T1738 X1738 e1738 => ?_
      refine own_icmpYes X1738 hx 115 (hb hby own_d7_57) (by decide) (by decide) rfl ?_
      refine own_aloadN X1738 hx 116 rfl (hb hby own_d7_115) rfl rfl ?_
      refine own_getF X1738 hx hZ (host := "") hown (Or.inl (own_hw hw 19 rfl)) Via.refl e1738 f1727 119 rfl (hb hby own_d7_116) fun T1739 X1739 e1739 => ?_
      refine own_iconst X1739 hx 120 rfl (hb hby own_d7_119) (0 : Int32) rfl ?_
      refine own_ldI X1739 hx hZ e1739 f1721 ⟨by decide, by decide⟩ (2 : Int32) rfl 121 rfl (hb hby own_d7_120) ?_
      refine own_istoreN X1739 hx 122 rfl (hb hby own_d7_121) #[.val (.ref o), .val (.int (0 : Int32)), .val (.int (1 : Int32)), .val (.int (2 : Int32)), .unset] rfl ?_
      refine own_new X1739 hx hZ hown (own_hw hw 53 rfl) (own_hw hw 54 rfl) (own_hw hw 55 rfl) e1739 125 rfl (hb hby own_d7_122) (by decide) (by decide) fun T1740 h1740 b1740 g1740 X1740 e1740 E1740 A1740 D1740 => ?_
      have ne1741 : o ≠ b1740 := Nat.ne_of_lt (Nat.lt_of_lt_of_le f1722.lt (Nat.le_of_eq g1740.symm))
      have ne1742 : a1 ≠ b1740 := Nat.ne_of_lt (Nat.lt_of_lt_of_le f1728.lt (Nat.le_of_eq g1740.symm))
      have ne1743 : a2 ≠ b1740 := Nat.ne_of_lt (Nat.lt_of_lt_of_le f1729.lt (Nat.le_of_eq g1740.symm))
      have ne1744 : a3 ≠ b1740 := Nat.ne_of_lt (Nat.lt_of_lt_of_le f1730.lt (Nat.le_of_eq g1740.symm))
      have ne1745 : a4 ≠ b1740 := Nat.ne_of_lt (Nat.lt_of_lt_of_le f1731.lt (Nat.le_of_eq g1740.symm))
      have ne1746 : a5 ≠ b1740 := Nat.ne_of_lt (Nat.lt_of_lt_of_le f1721.lt (Nat.le_of_eq g1740.symm))
      have ge1747 : n0 ≤ b1740 := Nat.le_trans z1733 (Nat.le_of_eq g1740.symm)
      have sz1748 : h0.size ≤ b1740 := Nat.le_trans K1734.1 (Nat.le_of_eq g1740.symm)
      have f1749 := f1722.ext E1740
      have f1750 := f1723.ext E1740
      have f1751 := f1724.ext E1740
      have f1752 := f1725.ext E1740
      have f1753 := f1726.ext E1740
      have f1754 := f1727.ext E1740
      have f1755 := f1728.ext E1740
      have f1756 := f1729.ext E1740
      have f1757 := f1730.ext E1740
      have f1758 := f1731.ext E1740
      have f1759 := f1732.ext E1740
      have f1760 := f1721.ext E1740
      have z1761 := Nat.le_trans z1733 E1740.1
      have K1762 := K1734.ext E1740
      have f1763 : Fld Z h1740 b1740 "com/example/prizepath/prizepath/Insertions$Insertion" "customer" "I" (.int (0 : Int32)) := D1740 (Or.inr (own_hw hw 66 rfl)) (ty := .int) (by decide)
      have f1764 : Fld Z h1740 b1740 "com/example/prizepath/prizepath/Insertions$Insertion" "route" "I" (.int (0 : Int32)) := D1740 (Or.inr (own_hw hw 68 rfl)) (ty := .int) (by decide)
      have f1765 : Fld Z h1740 b1740 "com/example/prizepath/prizepath/Insertions$Insertion" "place" "I" (.int (0 : Int32)) := D1740 (Or.inr (own_hw hw 70 rfl)) (ty := .int) (by decide)
      refine own_dup X1740 hx 126 rfl (hb hby own_d7_125) rfl ?_
      refine own_aloadN X1740 hx 127 rfl (hb hby own_d7_126) rfl rfl ?_
      refine own_getF X1740 hx hZ (host := "") hown (Or.inl (own_hw hw 10 rfl)) Via.refl e1740 f1750 130 rfl (hb hby own_d7_127) fun T1766 X1766 e1766 => ?_
      refine own_iloadN X1766 hx 131 rfl (hb hby own_d7_130) rfl ?_
      refine own_ldI X1766 hx hZ e1766 f1755 ⟨by decide, by decide⟩ c2 rfl 132 rfl (hb hby own_d7_131) ?_
      refine own_aloadN X1766 hx 133 rfl (hb hby own_d7_132) rfl rfl ?_
      refine own_getF X1766 hx hZ (host := "") hown (Or.inl (own_hw hw 12 rfl)) Via.refl e1766 f1751 136 rfl (hb hby own_d7_133) fun T1767 X1767 e1767 => ?_
      refine own_iloadN X1767 hx 137 rfl (hb hby own_d7_136) rfl ?_
      refine own_ldI X1767 hx hZ e1767 f1756 ⟨by decide, by decide⟩ r2 rfl 138 rfl (hb hby own_d7_137) ?_
      refine own_aloadN X1767 hx 139 rfl (hb hby own_d7_138) rfl rfl ?_
      refine own_getF X1767 hx hZ (host := "") hown (Or.inl (own_hw hw 14 rfl)) Via.refl e1767 f1752 142 rfl (hb hby own_d7_139) fun T1768 X1768 e1768 => ?_
      refine own_iloadN X1768 hx 143 rfl (hb hby own_d7_142) rfl ?_
      refine own_ldI X1768 hx hZ e1768 f1757 ⟨by decide, by decide⟩ p2 rfl 144 rfl (hb hby own_d7_143) ?_
      refine own_special X1768 hx hZ (y := (⟨"com/example/prizepath/prizepath/Insertions$Insertion", "<init>", "(III)V"⟩ : MethodName)) hown rfl (own_hw hw 56 rfl) (own_hw hw 57 rfl) (a := b1740) (by decide) rfl (rm_ins l Z a0 hw [] b1740 c2 r2 p2 h1740 n0 z1761 A1740 f1763 f1764 f1765 ge1747) (own_hw hw 58 rfl) (own_hw hw 55 rfl) (by decide) e1768 (by rw [hml]; rfl) [(.int c2), (.int r2), (.int p2)] 1 (by decide) (Nat.le_of_eq rfl) (by decide) (by decide) (lenOf own_pd8 rfl) rfl rfl 147 rfl (hb hby own_d7_144) fun v1769 T1769 Lc1769 X1769 hQ1769 => ?_
      obtain ⟨rfl, Nq1769, Kq1769, f1770, f1771, f1772, f1773⟩ := hQ1769
      have N1774 := Fr.app N1737 Nq1769
      have f1775 := f1749.keep Kq1769
      have f1776 := f1750.keep Kq1769 (ninS ne1741 nin0)
      have f1777 := f1751.keep Kq1769 (ninS ne1741 nin0)
      have f1778 := f1752.keep Kq1769 (ninS ne1741 nin0)
      have f1779 := f1753.keep Kq1769 (ninS ne1741 nin0)
      have f1780 := f1754.keep Kq1769 (ninS ne1741 nin0)
      have f1781 := f1755.keep Kq1769 (ninS ne1742 nin0)
      have f1782 := f1756.keep Kq1769 (ninS ne1743 nin0)
      have f1783 := f1757.keep Kq1769 (ninS ne1744 nin0)
      have f1784 := f1758.keep Kq1769 (ninS ne1745 nin0)
      have f1785 := f1759.keep Kq1769 (ninS ne1741 nin0)
      have f1786 := f1760.keep Kq1769 (ninS ne1746 nin0)
      have f1787 := A1740.keep Kq1769
      have z1791 := Nat.le_trans z1761 Kq1769.1
      have K1792 := K1762.trans Kq1769 (allS (Or.inr sz1748) all0)
      show own_Go _ _ _ _ _ (State.setTop _ (mkF _ 147 _ [(.ref b1740)]))
      refine own_astore X1769 hx 149 rfl (hb hby own_d7_147) rfl #[.val (.ref o), .val (.int (0 : Int32)), .val (.int (1 : Int32)), .val (.int (2 : Int32)), .val (.ref b1740)] rfl ?_
      refine own_aloadN X1769 hx 150 rfl (hb hby own_d7_149) rfl rfl ?_
      refine own_iloadN X1769 hx 151 rfl (hb hby own_d7_150) rfl ?_
      refine own_private X1769 hx hZ (y := (⟨"com/example/prizepath/prizepath/Insertions", "moveLastTo", "(I)V"⟩ : MethodName)) (z := (⟨"com/example/prizepath/prizepath/Insertions", "clear", "()V"⟩ : MethodName)) hown (own_hw hw 71 rfl) (own_hw hw 72 rfl) rfl (own_hw hw 24 rfl) (own_hw hw 73 rfl) (a := o) f1775 (by decide) (rm_mv32 l Z a0 hw [] o a1 a2 a3 a4 k1 k2 k3 k4 c0 c1 c2 r0 r1 r2 p0 p1 p2 d0 d1 d2 T1769.heap n0 z1791 f1775 f1776 f1777 f1778 f1779 f1781 f1782 f1783 f1784 f1785 g_o g_a1 g_a2 g_a3 g_a4 n_oa1 n_oa2 n_oa3 n_oa4 n_a1a2 n_a1a3 n_a1a4 n_a2a3 n_a2a4 n_a3a4) (own_hw hw 74 rfl) (own_hw hw 2 rfl) (by decide) rfl (by rw [hml]; rfl) [(.int (2 : Int32))] 0 (by decide) (Nat.le_of_eq rfl) (by decide) (by decide) (lenOf own_pd7 rfl) rfl rfl 154 rfl (hb hby own_d7_151) fun v1793 T1793 Lc1793 X1793 hQ1793 => ?_
      obtain ⟨rfl, Nq1793, Kq1793, f1794⟩ := hQ1793
      have N1795 := Fr.app N1774 Nq1793
      have f1796 := f1775.keep Kq1793
      have f1807 := f1786.keep Kq1793 (ninS (Ne.symm n_oa5) (ninS (Ne.symm n_a1a5) (ninS (Ne.symm n_a2a5) (ninS (Ne.symm n_a3a5) (ninS (Ne.symm n_a4a5) nin0)))))
      have f1808 := f1770.keep Kq1793
      have f1809 := f1771.keep Kq1793 (ninS (Ne.symm ne1741) (ninS (Ne.symm ne1742) (ninS (Ne.symm ne1743) (ninS (Ne.symm ne1744) (ninS (Ne.symm ne1745) nin0)))))
      have f1810 := f1772.keep Kq1793 (ninS (Ne.symm ne1741) (ninS (Ne.symm ne1742) (ninS (Ne.symm ne1743) (ninS (Ne.symm ne1744) (ninS (Ne.symm ne1745) nin0)))))
      have f1811 := f1773.keep Kq1793 (ninS (Ne.symm ne1741) (ninS (Ne.symm ne1742) (ninS (Ne.symm ne1743) (ninS (Ne.symm ne1744) (ninS (Ne.symm ne1745) nin0)))))
      have z1812 := Nat.le_trans z1791 Kq1793.1
      have K1813 := K1792.trans Kq1793 (allS (Or.inl (List.mem_of_getElem? (i := 0) rfl)) (allS (Or.inl (List.mem_of_getElem? (i := 1) rfl)) (allS (Or.inl (List.mem_of_getElem? (i := 2) rfl)) (allS (Or.inl (List.mem_of_getElem? (i := 3) rfl)) (allS (Or.inl (List.mem_of_getElem? (i := 4) rfl)) all0)))))
      show own_Go _ _ _ _ _ (State.setTop _ (mkF _ 154 _ []))
      refine own_aload X1793 hx 156 rfl (hb hby own_d7_154) rfl rfl ?_
      refine own_ret X1793 (some (.ref b1740)) (fun h => by rw [Bd.returns] at h; cases h) Bd.notSynchronized (by decide) (by decide) ?_ (fun fs hr => own_retR X1793 hx Bd.returns rfl rfl (hb hby own_d7_156) hr)
      show Q_rm_take30 Z o a1 a2 a3 a4 a5 k1 k2 k3 k4 k5 c0 c1 c2 r0 r1 r2 p0 p1 p2 d0 d1 d2 h0 n0 _ T1793.heap _
      exact ⟨_, rfl, N1795, K1813, f1794⟩
theorem own_ef_rm_take31 (m : MethodId) (o : Addr) : entryFrame m #[(.ref o), (.int (1 : Int32))] 5 = mkF m 0 #[.val (.ref o), .val (.int (1 : Int32)), .unset, .unset, .unset] [] := by first | (simp [entryFrame, mkF, argsToLocals, Value.category]; done) | rfl
def Q_rm_take31 (Z : State) (o : Addr) (a1 : Addr) (a2 : Addr) (a3 : Addr) (a4 : Addr) (a5 : Addr) (k1 : ClassId) (k2 : ClassId) (k3 : ClassId) (k4 : ClassId) (k5 : ClassId) (c0 : Int32) (c1 : Int32) (c2 : Int32) (r0 : Int32) (r1 : Int32) (r2 : Int32) (p0 : Int32) (p1 : Int32) (p2 : Int32) (d0 : UInt64) (d1 : UInt64) (d2 : UInt64) (h0 : Heap) (n0 : Nat) (v : Option Value) (h : Heap) (L : List Loc) : Prop := ∃ b : Addr, v = some (.ref b) ∧ Fr n0 L ∧ Keep h0 h [o, a1, a2, a3, a4, a5] ∧ Fld Z h o "com/example/prizepath/prizepath/Insertions" "size" "I" (.int (2 : Int32))
set_option maxRecDepth 65536 in
set_option maxHeartbeats 40000000 in
theorem rm_take31 (l : Launch) (Z : State) (a0 : Array Value) (hw : ∀ d ∈ tables_1, d.before a0 Z = true) (ws : List Jvm.Cond) (o : Addr) (a1 : Addr) (a2 : Addr) (a3 : Addr) (a4 : Addr) (a5 : Addr) (k1 : ClassId) (k2 : ClassId) (k3 : ClassId) (k4 : ClassId) (k5 : ClassId) (c0 : Int32) (c1 : Int32) (c2 : Int32) (r0 : Int32) (r1 : Int32) (r2 : Int32) (p0 : Int32) (p1 : Int32) (p2 : Int32) (d0 : UInt64) (d1 : UInt64) (d2 : UInt64) (h0 : Heap) (n0 : Nat) (Z0 : n0 ≤ h0.size) (E0 : Exa Z h0 o "com/example/prizepath/prizepath/Insertions") (F1 : Fld Z h0 o "com/example/prizepath/prizepath/Insertions" "customers" "[I" (.ref a1)) (F2 : Fld Z h0 o "com/example/prizepath/prizepath/Insertions" "routes" "[I" (.ref a2)) (F3 : Fld Z h0 o "com/example/prizepath/prizepath/Insertions" "places" "[I" (.ref a3)) (F4 : Fld Z h0 o "com/example/prizepath/prizepath/Insertions" "ranks" "[D" (.ref a4)) (F5 : Fld Z h0 o "com/example/prizepath/prizepath/Insertions" "kept" "[I" (.ref a5)) (A1 : Arv Z h0 a1 k1 .int (256 : Int32) [(.int c0), (.int c1), (.int c2)] (.int (0 : Int32))) (A2 : Arv Z h0 a2 k2 .int (256 : Int32) [(.int r0), (.int r1), (.int r2)] (.int (0 : Int32))) (A3 : Arv Z h0 a3 k3 .int (256 : Int32) [(.int p0), (.int p1), (.int p2)] (.int (0 : Int32))) (A4 : Arv Z h0 a4 k4 .double (256 : Int32) [(.double d0), (.double d1), (.double d2)] (.double (0 : UInt64))) (A5 : Arv Z h0 a5 k5 .int (1 : Int32) [(.int (0 : Int32))] (.int (0 : Int32))) (FZ : Fld Z h0 o "com/example/prizepath/prizepath/Insertions" "size" "I" (.int (3 : Int32))) (g_o : n0 ≤ o) (g_a1 : n0 ≤ a1) (g_a2 : n0 ≤ a2) (g_a3 : n0 ≤ a3) (g_a4 : n0 ≤ a4) (g_a5 : n0 ≤ a5) (n_oa1 : o ≠ a1) (n_oa2 : o ≠ a2) (n_oa3 : o ≠ a3) (n_oa4 : o ≠ a4) (n_a1a2 : a1 ≠ a2) (n_a1a3 : a1 ≠ a3) (n_a1a4 : a1 ≠ a4) (n_a2a3 : a2 ≠ a3) (n_a2a4 : a2 ≠ a4) (n_a3a4 : a3 ≠ a4) (n_oa5 : o ≠ a5) (n_a1a5 : a1 ≠ a5) (n_a2a5 : a2 ≠ a5) (n_a3a5 : a3 ≠ a5) (n_a4a5 : a4 ≠ a5) (nd0 : cmpValue (FP.dcmp d0 d0) .l = 0) (nd1 : cmpValue (FP.dcmp d1 d1) .l = 0) (nd2 : cmpValue (FP.dcmp d2 d2) .l = 0) :
    MetFree l (⟨"com/example/prizepath/prizepath/Insertions", "take", "(I)Lcom/example/prizepath/prizepath/Insertions$Insertion;"⟩ : MethodName) (head1 (Jvm.Cond.code (⟨"com/example/prizepath/prizepath/Insertions", "take", "(I)Lcom/example/prizepath/prizepath/Insertions$Insertion;"⟩ : MethodName) prog_15_method_6_code 5 (some (.object "com/example/prizepath/prizepath/Insertions$Insertion")) :: ws) ({ frames := 5, cells := 2, slots := 5, locals := 100 } : Room)) (fun aa U => aa = #[(.ref o), (.int (1 : Int32))] ∧ Z.Warmed39 U.vm ∧ U.heap = h0) (fun _ _ _ _ _ => True) (fun _ U ou U' => ∃ v L, ou = .returned v ∧ Q_rm_take31 Z o a1 a2 a3 a4 a5 k1 k2 k3 k4 k5 c0 c1 c2 r0 r1 r2 p0 p1 p2 d0 d1 d2 h0 n0 v U'.heap L ∧ FrameEnd U ou U' L ({ frames := 5, cells := 2, slots := 5, locals := 100 } : Room).cells ({ frames := 5, cells := 2, slots := 5, locals := 100 } : Room).slots) := by
  refine MetFree.of_bodySF (plainFor_of_name own_pn2) hisR ?_
  intro p e s m args below meth c s₁ Bd hml0 hP hK
  obtain ⟨rfl, hZ, hh⟩ := hP
  have hx := Bd.exec
  have hby := Bd.bytes
  have hml : c.maxLocals = 5 := hml0
  have hown : s.vm.findClass "com/example/prizepath/prizepath/Insertions" = some m.cls := findClass_of_methodNamed Bd.named
  have hnm := (name_of_methodNamed Bd.named Bd.method).1
  have X0 : Stand p l e ({ frames := 5, cells := 2, slots := 5, locals := 100 } : Room) s m #[(.ref o), (.int (1 : Int32))] below meth c s₁ [] 0 0 := Stand.of_body Bd
  have e0 : s₁.heap = h0 := by rw [← hh, Bd.state]; rfl
  have N0 := Fr.nil n0
  have K0 := Keep.refl h0 [o, a1, a2, a3, a4, a5]
  show own_Go p e below (fun o u L => FrameEnd s o u L ({ frames := 5, cells := 2, slots := 5, locals := 100 } : Room).cells ({ frames := 5, cells := 2, slots := 5, locals := 100 } : Room).slots) (Q_rm_take31 Z o a1 a2 a3 a4 a5 k1 k2 k3 k4 k5 c0 c1 c2 r0 r1 r2 p0 p1 p2 d0 d1 d2 h0 n0) (s₁.setTop (entryFrame m #[(.ref o), (.int (1 : Int32))] 5))
  rw [own_ef_rm_take31 m o]
  show own_Go _ _ _ _ _ (State.setTop _ (mkF _ 0 #[.val (.ref o), .val (.int (1 : Int32)), .unset, .unset, .unset] []))
  refine own_iloadN X0 hx 1 rfl (hb hby own_d7_0) rfl ?_
  refine own_ifNo X0 hx 4 rfl (hb hby own_d7_1) (by decide) ?_
  refine own_iloadN X0 hx 5 rfl (hb hby own_d7_4) rfl ?_
  refine own_aloadN X0 hx 6 rfl (hb hby own_d7_5) rfl rfl ?_
  refine own_getF X0 hx hZ (host := "") hown (Or.inl (own_hw hw 26 rfl)) Via.refl e0 FZ 9 rfl (hb hby own_d7_6) fun T1814 X1814 e1814 => ?_
  refine own_icmpYes X1814 hx 30 (hb hby own_d7_9) (by decide) (by decide) rfl ?_
  refine own_aloadN X1814 hx 31 rfl (hb hby own_d7_30) rfl rfl ?_
  refine own_getF X1814 hx hZ (host := "") hown (Or.inl (own_hw hw 19 rfl)) Via.refl e1814 F5 34 rfl (hb hby own_d7_31) fun T1815 X1815 e1815 => ?_
  refine own_len X1815 hx hZ e1815 A5 35 rfl (hb hby own_d7_34) ?_
  refine own_iloadN X1815 hx 36 rfl (hb hby own_d7_35) rfl ?_
  refine own_icmpNo X1815 hx 39 rfl (hb hby own_d7_36) (by decide) ?_
  refine own_aloadN X1815 hx 40 rfl (hb hby own_d7_39) rfl rfl ?_
  refine own_iloadN X1815 hx 41 rfl (hb hby own_d7_40) rfl ?_
  refine own_iconst X1815 hx 42 rfl (hb hby own_d7_41) (1 : Int32) rfl ?_
  refine own_iadd X1815 hx 43 rfl (hb hby own_d7_42) (2 : Int32) rfl ?_
  refine own_newA X1815 hx hZ (own_hw hw 9 rfl) e1815 45 rfl (hb hby own_d7_43) (by decide) 2 (by decide) (by decide) (by decide) (by decide) "[I" (by decide) fun T1816 h1816 k1816 b1816 g1816 X1816 e1816 E1816 A1816 C1816 => ?_
  have ne1817 : o ≠ b1816 := Nat.ne_of_lt (Nat.lt_of_lt_of_le E0.lt (Nat.le_of_eq g1816.symm))
  have ne1818 : a1 ≠ b1816 := Nat.ne_of_lt (Nat.lt_of_lt_of_le A1.lt (Nat.le_of_eq g1816.symm))
  have ne1819 : a2 ≠ b1816 := Nat.ne_of_lt (Nat.lt_of_lt_of_le A2.lt (Nat.le_of_eq g1816.symm))
  have ne1820 : a3 ≠ b1816 := Nat.ne_of_lt (Nat.lt_of_lt_of_le A3.lt (Nat.le_of_eq g1816.symm))
  have ne1821 : a4 ≠ b1816 := Nat.ne_of_lt (Nat.lt_of_lt_of_le A4.lt (Nat.le_of_eq g1816.symm))
  have ne1822 : a5 ≠ b1816 := Nat.ne_of_lt (Nat.lt_of_lt_of_le A5.lt (Nat.le_of_eq g1816.symm))
  have ge1823 : n0 ≤ b1816 := Nat.le_trans Z0 (Nat.le_of_eq g1816.symm)
  have sz1824 : h0.size ≤ b1816 := Nat.le_trans K0.1 (Nat.le_of_eq g1816.symm)
  have f1825 := E0.ext E1816
  have f1826 := F1.ext E1816
  have f1827 := F2.ext E1816
  have f1828 := F3.ext E1816
  have f1829 := F4.ext E1816
  have f1830 := F5.ext E1816
  have f1831 := A1.ext E1816
  have f1832 := A2.ext E1816
  have f1833 := A3.ext E1816
  have f1834 := A4.ext E1816
  have f1835 := A5.ext E1816
  have f1836 := FZ.ext E1816
  have z1837 := Nat.le_trans Z0 E1816.1
  have K1838 := K0.ext E1816
  have f1839 : Arv Z h1816 b1816 k1816 .int (2 : Int32) [(.int (0 : Int32)), (.int (0 : Int32))] (.int (0 : Int32)) := (Arv.new A1816 (by decide)).pad (pad_rep [] (.int (0 : Int32)) 2)
  refine own_putF X1816 hx hZ (host := "") hown (Or.inl (own_hw hw 19 rfl)) Via.refl e1816 f1830 f1825 (Or.inl (own_hw hw 20 rfl)) (own_hw hw 1 rfl) (ty := (.array .int)) (by decide) rfl rfl 48 rfl (hb hby own_d7_45) fun T1840 h1840 X1840 e1840 W1840 => ?_
  have f1841 := f1825.wr W1840
  have f1842 := f1826.other W1840 (Or.inr (slot_ne (Or.inl (own_hw hw 11 rfl)) (Or.inl (own_hw hw 20 rfl)) (by decide) (t := (.array .int)) (t' := (.array .int)) (by decide) (by decide)))
  have f1843 := f1827.other W1840 (Or.inr (slot_ne (Or.inl (own_hw hw 13 rfl)) (Or.inl (own_hw hw 20 rfl)) (by decide) (t := (.array .int)) (t' := (.array .int)) (by decide) (by decide)))
  have f1844 := f1828.other W1840 (Or.inr (slot_ne (Or.inl (own_hw hw 15 rfl)) (Or.inl (own_hw hw 20 rfl)) (by decide) (t := (.array .int)) (t' := (.array .int)) (by decide) (by decide)))
  have f1845 := f1829.other W1840 (Or.inr (slot_ne (Or.inl (own_hw hw 18 rfl)) (Or.inl (own_hw hw 20 rfl)) (by decide) (t := (.array .double)) (t' := (.array .int)) (by decide) (by decide)))
  have f1846 := f1831.other W1840 (Ne.symm n_oa1)
  have f1847 := f1832.other W1840 (Ne.symm n_oa2)
  have f1848 := f1833.other W1840 (Ne.symm n_oa3)
  have f1849 := f1834.other W1840 (Ne.symm n_oa4)
  have f1850 := f1835.other W1840 (Ne.symm n_oa5)
  have f1851 := f1836.other W1840 (Or.inr (slot_ne (Or.inl (own_hw hw 27 rfl)) (Or.inl (own_hw hw 20 rfl)) (by decide) (t := .int) (t' := (.array .int)) (by decide) (by decide)))
  have f1852 := C1816.wr W1840
  have f1853 := f1839.other W1840 (Ne.symm ne1817)
  have z1854 := Nat.le_trans z1837 (Keep.of_wr W1840).1
  have K1855 := K1838.wr W1840 (Or.inl (List.mem_of_getElem? (i := 0) rfl))
  have f1856 := f1830.same W1840
  have N1857 := Fr.snoc X1840 N0 g_o
  refine own_iconst X1840 hx 49 rfl (hb hby own_d7_48) (0 : Int32) rfl ?_
  refine own_istoreN X1840 hx 50 rfl (hb hby own_d7_49) #[.val (.ref o), .val (.int (1 : Int32)), .val (.int (0 : Int32)), .unset, .unset] rfl ?_
  refine own_iconst X1840 hx 51 rfl (hb hby own_d7_50) (0 : Int32) rfl ?_
  refine own_istoreN X1840 hx 52 rfl (hb hby own_d7_51) #[.val (.ref o), .val (.int (1 : Int32)), .val (.int (0 : Int32)), .val (.int (0 : Int32)), .unset] rfl ?_
  refine own_iloadN X1840 hx 53 rfl (hb hby own_d7_52) rfl ?_
  refine own_aloadN X1840 hx 54 rfl (hb hby own_d7_53) rfl rfl ?_
  refine own_getF X1840 hx hZ (host := "") hown (Or.inl (own_hw hw 26 rfl)) Via.refl e1840 f1851 57 rfl (hb hby own_d7_54) fun T1858 X1858 e1858 => ?_
  refine own_icmpNo X1858 hx 60 rfl (hb hby own_d7_57) (by decide) ?_
  refine own_iloadN X1858 hx 61 rfl (hb hby own_d7_60) rfl ?_
  refine own_iloadN X1858 hx 62 rfl (hb hby own_d7_61) rfl ?_
  refine own_icmpNo X1858 hx 65 rfl (hb hby own_d7_62) (by decide) ?_
  refine own_aloadN X1858 hx 66 rfl (hb hby own_d7_65) rfl rfl ?_
  refine own_getF X1858 hx hZ (host := "") hown (Or.inl (own_hw hw 19 rfl)) Via.refl e1858 f1856 69 rfl (hb hby own_d7_66) fun T1859 X1859 e1859 => ?_
  refine own_iloadN X1859 hx 70 rfl (hb hby own_d7_69) rfl ?_
  refine own_iloadN X1859 hx 71 rfl (hb hby own_d7_70) rfl ?_
  refine own_stI X1859 hx hZ e1859 f1853 ⟨by decide, by decide⟩ 0 rfl (Nat.le_of_ble_eq_true rfl) [(.int (0 : Int32)), (.int (0 : Int32))] rfl 72 rfl (hb hby own_d7_71) fun T1860 h1860 X1860 e1860 W1860 f1861 => ?_
  have f1862 := f1841.wr W1860
  have f1863 := f1842.other W1860 (Or.inl ne1817)
  have f1864 := f1843.other W1860 (Or.inl ne1817)
  have f1865 := f1844.other W1860 (Or.inl ne1817)
  have f1866 := f1845.other W1860 (Or.inl ne1817)
  have f1867 := f1846.other W1860 ne1818
  have f1868 := f1847.other W1860 ne1819
  have f1869 := f1848.other W1860 ne1820
  have f1870 := f1849.other W1860 ne1821
  have f1871 := f1850.other W1860 ne1822
  have f1872 := f1851.other W1860 (Or.inl ne1817)
  have f1873 := f1852.wr W1860
  have f1874 := f1856.other W1860 (Or.inl ne1817)
  have z1875 := Nat.le_trans z1854 (Keep.of_wr W1860).1
  have K1876 := K1855.wr W1860 (Or.inr sz1824)
  have N1877 := Fr.snoc X1860 N1857 ge1823
  refine own_aloadN X1860 hx 73 rfl (hb hby own_d7_72) rfl rfl ?_
  refine own_iloadN X1860 hx 74 rfl (hb hby own_d7_73) rfl ?_
  refine own_private X1860 hx hZ (y := (⟨"com/example/prizepath/prizepath/Insertions", "siftUp", "(I)V"⟩ : MethodName)) (z := (⟨"com/example/prizepath/prizepath/Insertions", "clear", "()V"⟩ : MethodName)) hown (own_hw hw 49 rfl) (own_hw hw 50 rfl) rfl (own_hw hw 24 rfl) (own_hw hw 51 rfl) (a := o) f1862 (by decide) (rm_up0 l Z a0 hw [] o h1860 n0 z1875 ) (own_hw hw 52 rfl) (own_hw hw 2 rfl) (by decide) e1860 (by rw [hml]; rfl) [(.int (0 : Int32))] 0 (by decide) (Nat.le_of_eq rfl) (by decide) (by decide) (lenOf own_pd7 rfl) rfl rfl 77 rfl (hb hby own_d7_74) fun v1878 T1878 Lc1878 X1878 hQ1878 => ?_
  obtain ⟨rfl, Nq1878, e1878⟩ := hQ1878
  have N1879 := Fr.app N1877 Nq1878
  show own_Go _ _ _ _ _ (State.setTop _ (mkF _ 77 _ []))
  refine own_iinc X1878 hx 80 rfl (hb hby own_d7_77) rfl #[.val (.ref o), .val (.int (1 : Int32)), .val (.int (1 : Int32)), .val (.int (0 : Int32)), .unset] rfl ?_
  refine own_goto X1878 hx 109 (hb hby own_d7_80) (by decide) rfl ?_
  refine own_iinc X1878 hx 112 rfl (hb hby own_d7_109) rfl #[.val (.ref o), .val (.int (1 : Int32)), .val (.int (1 : Int32)), .val (.int (1 : Int32)), .unset] rfl ?_
  refine own_goto X1878 hx 52 (hb hby own_d7_112) (by decide) rfl ?_
  refine own_iloadN X1878 hx 53 rfl (hb hby own_d7_52) rfl ?_
  refine own_aloadN X1878 hx 54 rfl (hb hby own_d7_53) rfl rfl ?_
  refine own_getF X1878 hx hZ (host := "") hown (Or.inl (own_hw hw 26 rfl)) Via.refl e1878 f1872 57 rfl (hb hby own_d7_54) fun T1880 X1880 e1880 => ?_
  refine own_icmpNo X1880 hx 60 rfl (hb hby own_d7_57) (by decide) ?_
  refine own_iloadN X1880 hx 61 rfl (hb hby own_d7_60) rfl ?_
  refine own_iloadN X1880 hx 62 rfl (hb hby own_d7_61) rfl ?_
  refine own_icmpNo X1880 hx 65 rfl (hb hby own_d7_62) (by decide) ?_
  refine own_aloadN X1880 hx 66 rfl (hb hby own_d7_65) rfl rfl ?_
  refine own_getF X1880 hx hZ (host := "") hown (Or.inl (own_hw hw 19 rfl)) Via.refl e1880 f1874 69 rfl (hb hby own_d7_66) fun T1881 X1881 e1881 => ?_
  refine own_iloadN X1881 hx 70 rfl (hb hby own_d7_69) rfl ?_
  refine own_iloadN X1881 hx 71 rfl (hb hby own_d7_70) rfl ?_
  refine own_stI X1881 hx hZ e1881 f1861 ⟨by decide, by decide⟩ 1 rfl (Nat.le_of_ble_eq_true rfl) [(.int (0 : Int32)), (.int (1 : Int32))] rfl 72 rfl (hb hby own_d7_71) fun T1882 h1882 X1882 e1882 W1882 f1883 => ?_
  have f1884 := f1862.wr W1882
  have f1885 := f1863.other W1882 (Or.inl ne1817)
  have f1886 := f1864.other W1882 (Or.inl ne1817)
  have f1887 := f1865.other W1882 (Or.inl ne1817)
  have f1888 := f1866.other W1882 (Or.inl ne1817)
  have f1889 := f1867.other W1882 ne1818
  have f1890 := f1868.other W1882 ne1819
  have f1891 := f1869.other W1882 ne1820
  have f1892 := f1870.other W1882 ne1821
  have f1893 := f1871.other W1882 ne1822
  have f1894 := f1872.other W1882 (Or.inl ne1817)
  have f1895 := f1873.wr W1882
  have f1896 := f1874.other W1882 (Or.inl ne1817)
  have z1897 := Nat.le_trans z1875 (Keep.of_wr W1882).1
  have K1898 := K1876.wr W1882 (Or.inr sz1824)
  have N1899 := Fr.snoc X1882 N1879 ge1823
  refine own_aloadN X1882 hx 73 rfl (hb hby own_d7_72) rfl rfl ?_
  refine own_iloadN X1882 hx 74 rfl (hb hby own_d7_73) rfl ?_
  refine own_private X1882 hx hZ (y := (⟨"com/example/prizepath/prizepath/Insertions", "siftUp", "(I)V"⟩ : MethodName)) (z := (⟨"com/example/prizepath/prizepath/Insertions", "clear", "()V"⟩ : MethodName)) hown (own_hw hw 49 rfl) (own_hw hw 50 rfl) rfl (own_hw hw 24 rfl) (own_hw hw 51 rfl) (a := o) f1884 (by decide) (rm_up12 l Z a0 hw [] o a1 a2 a3 a4 b1816 k1 k2 k3 k4 k1816 c0 c1 c2 r0 r1 r2 p0 p1 p2 d0 d1 d2 h1882 n0 z1897 f1884 f1885 f1886 f1887 f1888 f1896 f1889 f1890 f1891 f1892 f1883 ge1823 ne1818 ne1819 ne1820 ne1821 ne1817 nd0 nd1 nd2) (own_hw hw 52 rfl) (own_hw hw 2 rfl) (by decide) e1882 (by rw [hml]; rfl) [(.int (1 : Int32))] 0 (by decide) (Nat.le_of_eq rfl) (by decide) (by decide) (lenOf own_pd7 rfl) rfl rfl 77 rfl (hb hby own_d7_74) fun v1900 T1900 Lc1900 X1900 hQ1900 => ?_
  obtain ⟨rfl, Nq1900, Kq1900, fk1900⟩ := hQ1900
  have N1901 := Fr.app N1899 Nq1900
  have f1902 := f1884.keep Kq1900
  have f1903 := f1885.keep Kq1900 (ninS ne1817 nin0)
  have f1904 := f1886.keep Kq1900 (ninS ne1817 nin0)
  have f1905 := f1887.keep Kq1900 (ninS ne1817 nin0)
  have f1906 := f1888.keep Kq1900 (ninS ne1817 nin0)
  have f1907 := f1889.keep Kq1900 (ninS ne1818 nin0)
  have f1908 := f1890.keep Kq1900 (ninS ne1819 nin0)
  have f1909 := f1891.keep Kq1900 (ninS ne1820 nin0)
  have f1910 := f1892.keep Kq1900 (ninS ne1821 nin0)
  have f1911 := f1893.keep Kq1900 (ninS ne1822 nin0)
  have f1912 := f1894.keep Kq1900 (ninS ne1817 nin0)
  have f1913 := f1895.keep Kq1900
  have f1914 := f1896.keep Kq1900 (ninS ne1817 nin0)
  have z1916 := Nat.le_trans z1897 Kq1900.1
  have K1917 := K1898.trans Kq1900 (allS (Or.inr sz1824) all0)
  rcases fk1900 with fk1900 | fk1900
  ·
    show own_Go _ _ _ _ _ (State.setTop _ (mkF _ 77 #[.val (.ref o), .val (.int (1 : Int32)), .val (.int (1 : Int32)), .val (.int (1 : Int32)), .unset] []))
    refine own_iinc X1900 hx 80 rfl (hb hby own_d7_77) rfl #[.val (.ref o), .val (.int (1 : Int32)), .val (.int (2 : Int32)), .val (.int (1 : Int32)), .unset] rfl ?_
    refine own_goto X1900 hx 109 (hb hby own_d7_80) (by decide) rfl ?_
    refine own_iinc X1900 hx 112 rfl (hb hby own_d7_109) rfl #[.val (.ref o), .val (.int (1 : Int32)), .val (.int (2 : Int32)), .val (.int (2 : Int32)), .unset] rfl ?_
    refine own_goto X1900 hx 52 (hb hby own_d7_112) (by decide) rfl ?_
    refine own_iloadN X1900 hx 53 rfl (hb hby own_d7_52) rfl ?_
    refine own_aloadN X1900 hx 54 rfl (hb hby own_d7_53) rfl rfl ?_
    refine own_getF X1900 hx hZ (host := "") hown (Or.inl (own_hw hw 26 rfl)) Via.refl rfl f1912 57 rfl (hb hby own_d7_54) fun T1918 X1918 e1918 => ?_
    refine own_icmpNo X1918 hx 60 rfl (hb hby own_d7_57) (by decide) ?_
    refine own_iloadN X1918 hx 61 rfl (hb hby own_d7_60) rfl ?_
    refine own_iloadN X1918 hx 62 rfl (hb hby own_d7_61) rfl ?_
    refine own_icmpYes X1918 hx 83 (hb hby own_d7_62) (by decide) (by decide) rfl ?_
    refine own_aloadN X1918 hx 84 rfl (hb hby own_d7_83) rfl rfl ?_
    refine own_iloadN X1918 hx 85 rfl (hb hby own_d7_84) rfl ?_
    refine own_aloadN X1918 hx 86 rfl (hb hby own_d7_85) rfl rfl ?_
    refine own_getF X1918 hx hZ (host := "") hown (Or.inl (own_hw hw 19 rfl)) Via.refl e1918 f1914 89 rfl (hb hby own_d7_86) fun T1919 X1919 e1919 => ?_
    refine own_iconst X1919 hx 90 rfl (hb hby own_d7_89) (0 : Int32) rfl ?_
    refine own_ldI X1919 hx hZ e1919 fk1900 ⟨by decide, by decide⟩ (0 : Int32) rfl 91 rfl (hb hby own_d7_90) ?_
    refine own_private X1919 hx hZ (y := (⟨"com/example/prizepath/prizepath/Insertions", "ranksBefore", "(II)Z"⟩ : MethodName)) (z := (⟨"com/example/prizepath/prizepath/Insertions", "clear", "()V"⟩ : MethodName)) hown (own_hw hw 75 rfl) (own_hw hw 76 rfl) rfl (own_hw hw 24 rfl) (own_hw hw 77 rfl) (a := o) f1902 (by decide) (rm_rb l Z a0 hw [] o (2 : Int32) (0 : Int32) a1 a2 a3 a4 k1 k2 k3 k4 [(.int c0), (.int c1), (.int c2)] [(.int r0), (.int r1), (.int r2)] [(.int p0), (.int p1), (.int p2)] [(.double d0), (.double d1), (.double d2)] d2 d0 c2 c0 r2 r0 p2 p0 T1900.heap n0 z1916 f1903 f1904 f1905 f1906 f1907 f1908 f1909 f1910 ⟨by decide, by decide⟩ ⟨by decide, by decide⟩ rfl rfl rfl rfl rfl rfl rfl rfl nd2 nd0) (own_hw hw 78 rfl) (own_hw hw 2 rfl) (by decide) e1919 (by rw [hml]; rfl) [(.int (2 : Int32)), (.int (0 : Int32))] 0 (by decide) (Nat.le_of_eq rfl) (by decide) (by decide) (lenOf own_pd4 rfl) rfl rfl 94 rfl (hb hby own_d7_91) fun v1920 T1920 Lc1920 X1920 hQ1920 => ?_
    obtain ⟨z1920, rfl, Nq1920, e1920, hz1920⟩ := hQ1920
    have N1921 := Fr.app N1901 Nq1920
    rcases hz1920 with rfl | rfl
    ·
      show own_Go _ _ _ _ _ (State.setTop _ (mkF _ 94 #[.val (.ref o), .val (.int (1 : Int32)), .val (.int (2 : Int32)), .val (.int (2 : Int32)), .unset] [(.int (0 : Int32))]))
      refine own_ifYes X1920 hx 109 (hb hby own_d7_94) (by decide) (by decide) rfl ?_
      refine own_iinc X1920 hx 112 rfl (hb hby own_d7_109) rfl #[.val (.ref o), .val (.int (1 : Int32)), .val (.int (2 : Int32)), .val (.int (3 : Int32)), .unset] rfl ?_
      refine own_goto X1920 hx 52 (hb hby own_d7_112) (by decide) rfl ?_
      refine own_iloadN X1920 hx 53 rfl (hb hby own_d7_52) rfl ?_
      refine own_aloadN X1920 hx 54 rfl (hb hby own_d7_53) rfl rfl ?_
      refine own_getF X1920 hx hZ (host := "") hown (Or.inl (own_hw hw 26 rfl)) Via.refl e1920 f1912 57 rfl (hb hby own_d7_54) fun T1922 X1922 e1922 => ?_
      refine own_icmpYes X1922 hx 115 (hb hby own_d7_57) (by decide) (by decide) rfl ?_
      refine own_aloadN X1922 hx 116 rfl (hb hby own_d7_115) rfl rfl ?_
      refine own_getF X1922 hx hZ (host := "") hown (Or.inl (own_hw hw 19 rfl)) Via.refl e1922 f1914 119 rfl (hb hby own_d7_116) fun T1923 X1923 e1923 => ?_
      refine own_iconst X1923 hx 120 rfl (hb hby own_d7_119) (0 : Int32) rfl ?_
      refine own_ldI X1923 hx hZ e1923 fk1900 ⟨by decide, by decide⟩ (0 : Int32) rfl 121 rfl (hb hby own_d7_120) ?_
      refine own_istoreN X1923 hx 122 rfl (hb hby own_d7_121) #[.val (.ref o), .val (.int (1 : Int32)), .val (.int (2 : Int32)), .val (.int (0 : Int32)), .unset] rfl ?_
      refine own_new X1923 hx hZ hown (own_hw hw 53 rfl) (own_hw hw 54 rfl) (own_hw hw 55 rfl) e1923 125 rfl (hb hby own_d7_122) (by decide) (by decide) fun T1924 h1924 b1924 g1924 X1924 e1924 E1924 A1924 D1924 => ?_
      have ne1925 : o ≠ b1924 := Nat.ne_of_lt (Nat.lt_of_lt_of_le f1902.lt (Nat.le_of_eq g1924.symm))
      have ne1926 : a1 ≠ b1924 := Nat.ne_of_lt (Nat.lt_of_lt_of_le f1907.lt (Nat.le_of_eq g1924.symm))
      have ne1927 : a2 ≠ b1924 := Nat.ne_of_lt (Nat.lt_of_lt_of_le f1908.lt (Nat.le_of_eq g1924.symm))
      have ne1928 : a3 ≠ b1924 := Nat.ne_of_lt (Nat.lt_of_lt_of_le f1909.lt (Nat.le_of_eq g1924.symm))
      have ne1929 : a4 ≠ b1924 := Nat.ne_of_lt (Nat.lt_of_lt_of_le f1910.lt (Nat.le_of_eq g1924.symm))
      have ne1930 : a5 ≠ b1924 := Nat.ne_of_lt (Nat.lt_of_lt_of_le f1911.lt (Nat.le_of_eq g1924.symm))
      have ne1931 : b1816 ≠ b1924 := Nat.ne_of_lt (Nat.lt_of_lt_of_le f1913.lt (Nat.le_of_eq g1924.symm))
      have ge1932 : n0 ≤ b1924 := Nat.le_trans z1916 (Nat.le_of_eq g1924.symm)
      have sz1933 : h0.size ≤ b1924 := Nat.le_trans K1917.1 (Nat.le_of_eq g1924.symm)
      have f1934 := f1902.ext E1924
      have f1935 := f1903.ext E1924
      have f1936 := f1904.ext E1924
      have f1937 := f1905.ext E1924
      have f1938 := f1906.ext E1924
      have f1939 := f1907.ext E1924
      have f1940 := f1908.ext E1924
      have f1941 := f1909.ext E1924
      have f1942 := f1910.ext E1924
      have f1943 := f1911.ext E1924
      have f1944 := f1912.ext E1924
      have f1945 := f1913.ext E1924
      have f1946 := f1914.ext E1924
      have f1947 := fk1900.ext E1924
      have z1948 := Nat.le_trans z1916 E1924.1
      have K1949 := K1917.ext E1924
      have f1950 : Fld Z h1924 b1924 "com/example/prizepath/prizepath/Insertions$Insertion" "customer" "I" (.int (0 : Int32)) := D1924 (Or.inr (own_hw hw 66 rfl)) (ty := .int) (by decide)
      have f1951 : Fld Z h1924 b1924 "com/example/prizepath/prizepath/Insertions$Insertion" "route" "I" (.int (0 : Int32)) := D1924 (Or.inr (own_hw hw 68 rfl)) (ty := .int) (by decide)
      have f1952 : Fld Z h1924 b1924 "com/example/prizepath/prizepath/Insertions$Insertion" "place" "I" (.int (0 : Int32)) := D1924 (Or.inr (own_hw hw 70 rfl)) (ty := .int) (by decide)
      refine own_dup X1924 hx 126 rfl (hb hby own_d7_125) rfl ?_
      refine own_aloadN X1924 hx 127 rfl (hb hby own_d7_126) rfl rfl ?_
      refine own_getF X1924 hx hZ (host := "") hown (Or.inl (own_hw hw 10 rfl)) Via.refl e1924 f1935 130 rfl (hb hby own_d7_127) fun T1953 X1953 e1953 => ?_
      refine own_iloadN X1953 hx 131 rfl (hb hby own_d7_130) rfl ?_
      refine own_ldI X1953 hx hZ e1953 f1939 ⟨by decide, by decide⟩ c0 rfl 132 rfl (hb hby own_d7_131) ?_
      refine own_aloadN X1953 hx 133 rfl (hb hby own_d7_132) rfl rfl ?_
      refine own_getF X1953 hx hZ (host := "") hown (Or.inl (own_hw hw 12 rfl)) Via.refl e1953 f1936 136 rfl (hb hby own_d7_133) fun T1954 X1954 e1954 => ?_
      refine own_iloadN X1954 hx 137 rfl (hb hby own_d7_136) rfl ?_
      refine own_ldI X1954 hx hZ e1954 f1940 ⟨by decide, by decide⟩ r0 rfl 138 rfl (hb hby own_d7_137) ?_
      refine own_aloadN X1954 hx 139 rfl (hb hby own_d7_138) rfl rfl ?_
      refine own_getF X1954 hx hZ (host := "") hown (Or.inl (own_hw hw 14 rfl)) Via.refl e1954 f1937 142 rfl (hb hby own_d7_139) fun T1955 X1955 e1955 => ?_
      refine own_iloadN X1955 hx 143 rfl (hb hby own_d7_142) rfl ?_
      refine own_ldI X1955 hx hZ e1955 f1941 ⟨by decide, by decide⟩ p0 rfl 144 rfl (hb hby own_d7_143) ?_
      refine own_special X1955 hx hZ (y := (⟨"com/example/prizepath/prizepath/Insertions$Insertion", "<init>", "(III)V"⟩ : MethodName)) hown rfl (own_hw hw 56 rfl) (own_hw hw 57 rfl) (a := b1924) (by decide) rfl (rm_ins l Z a0 hw [] b1924 c0 r0 p0 h1924 n0 z1948 A1924 f1950 f1951 f1952 ge1932) (own_hw hw 58 rfl) (own_hw hw 55 rfl) (by decide) e1955 (by rw [hml]; rfl) [(.int c0), (.int r0), (.int p0)] 1 (by decide) (Nat.le_of_eq rfl) (by decide) (by decide) (lenOf own_pd8 rfl) rfl rfl 147 rfl (hb hby own_d7_144) fun v1956 T1956 Lc1956 X1956 hQ1956 => ?_
      obtain ⟨rfl, Nq1956, Kq1956, f1957, f1958, f1959, f1960⟩ := hQ1956
      have N1961 := Fr.app N1921 Nq1956
      have f1962 := f1934.keep Kq1956
      have f1963 := f1935.keep Kq1956 (ninS ne1925 nin0)
      have f1964 := f1936.keep Kq1956 (ninS ne1925 nin0)
      have f1965 := f1937.keep Kq1956 (ninS ne1925 nin0)
      have f1966 := f1938.keep Kq1956 (ninS ne1925 nin0)
      have f1967 := f1939.keep Kq1956 (ninS ne1926 nin0)
      have f1968 := f1940.keep Kq1956 (ninS ne1927 nin0)
      have f1969 := f1941.keep Kq1956 (ninS ne1928 nin0)
      have f1970 := f1942.keep Kq1956 (ninS ne1929 nin0)
      have f1971 := f1943.keep Kq1956 (ninS ne1930 nin0)
      have f1972 := f1944.keep Kq1956 (ninS ne1925 nin0)
      have f1973 := f1945.keep Kq1956
      have f1974 := f1946.keep Kq1956 (ninS ne1925 nin0)
      have f1975 := f1947.keep Kq1956 (ninS ne1931 nin0)
      have f1976 := A1924.keep Kq1956
      have z1980 := Nat.le_trans z1948 Kq1956.1
      have K1981 := K1949.trans Kq1956 (allS (Or.inr sz1933) all0)
      show own_Go _ _ _ _ _ (State.setTop _ (mkF _ 147 _ [(.ref b1924)]))
      refine own_astore X1956 hx 149 rfl (hb hby own_d7_147) rfl #[.val (.ref o), .val (.int (1 : Int32)), .val (.int (2 : Int32)), .val (.int (0 : Int32)), .val (.ref b1924)] rfl ?_
      refine own_aloadN X1956 hx 150 rfl (hb hby own_d7_149) rfl rfl ?_
      refine own_iloadN X1956 hx 151 rfl (hb hby own_d7_150) rfl ?_
      refine own_private X1956 hx hZ (y := (⟨"com/example/prizepath/prizepath/Insertions", "moveLastTo", "(I)V"⟩ : MethodName)) (z := (⟨"com/example/prizepath/prizepath/Insertions", "clear", "()V"⟩ : MethodName)) hown (own_hw hw 71 rfl) (own_hw hw 72 rfl) rfl (own_hw hw 24 rfl) (own_hw hw 73 rfl) (a := o) f1962 (by decide) (rm_mv30 l Z a0 hw [] o a1 a2 a3 a4 k1 k2 k3 k4 c0 c1 c2 r0 r1 r2 p0 p1 p2 d0 d1 d2 T1956.heap n0 z1980 f1962 f1963 f1964 f1965 f1966 f1967 f1968 f1969 f1970 f1972 g_o g_a1 g_a2 g_a3 g_a4 n_oa1 n_oa2 n_oa3 n_oa4 n_a1a2 n_a1a3 n_a1a4 n_a2a3 n_a2a4 n_a3a4) (own_hw hw 74 rfl) (own_hw hw 2 rfl) (by decide) rfl (by rw [hml]; rfl) [(.int (0 : Int32))] 0 (by decide) (Nat.le_of_eq rfl) (by decide) (by decide) (lenOf own_pd7 rfl) rfl rfl 154 rfl (hb hby own_d7_151) fun v1982 T1982 Lc1982 X1982 hQ1982 => ?_
      obtain ⟨rfl, Nq1982, Kq1982, f1983⟩ := hQ1982
      have N1984 := Fr.app N1961 Nq1982
      have f1985 := f1962.keep Kq1982
      have f1994 := f1971.keep Kq1982 (ninS (Ne.symm n_oa5) (ninS (Ne.symm n_a1a5) (ninS (Ne.symm n_a2a5) (ninS (Ne.symm n_a3a5) (ninS (Ne.symm n_a4a5) nin0)))))
      have f1996 := f1973.keep Kq1982
      have f1998 := f1975.keep Kq1982 (ninS (Ne.symm ne1817) (ninS (Ne.symm ne1818) (ninS (Ne.symm ne1819) (ninS (Ne.symm ne1820) (ninS (Ne.symm ne1821) nin0)))))
      have f1999 := f1957.keep Kq1982
      have f2000 := f1958.keep Kq1982 (ninS (Ne.symm ne1925) (ninS (Ne.symm ne1926) (ninS (Ne.symm ne1927) (ninS (Ne.symm ne1928) (ninS (Ne.symm ne1929) nin0)))))
      have f2001 := f1959.keep Kq1982 (ninS (Ne.symm ne1925) (ninS (Ne.symm ne1926) (ninS (Ne.symm ne1927) (ninS (Ne.symm ne1928) (ninS (Ne.symm ne1929) nin0)))))
      have f2002 := f1960.keep Kq1982 (ninS (Ne.symm ne1925) (ninS (Ne.symm ne1926) (ninS (Ne.symm ne1927) (ninS (Ne.symm ne1928) (ninS (Ne.symm ne1929) nin0)))))
      have z2003 := Nat.le_trans z1980 Kq1982.1
      have K2004 := K1981.trans Kq1982 (allS (Or.inl (List.mem_of_getElem? (i := 0) rfl)) (allS (Or.inl (List.mem_of_getElem? (i := 1) rfl)) (allS (Or.inl (List.mem_of_getElem? (i := 2) rfl)) (allS (Or.inl (List.mem_of_getElem? (i := 3) rfl)) (allS (Or.inl (List.mem_of_getElem? (i := 4) rfl)) all0)))))
      show own_Go _ _ _ _ _ (State.setTop _ (mkF _ 154 _ []))
      refine own_aload X1982 hx 156 rfl (hb hby own_d7_154) rfl rfl ?_
      refine own_ret X1982 (some (.ref b1924)) (fun h => by rw [Bd.returns] at h; cases h) Bd.notSynchronized (by decide) (by decide) ?_ (fun fs hr => own_retR X1982 hx Bd.returns rfl rfl (hb hby own_d7_156) hr)
      show Q_rm_take31 Z o a1 a2 a3 a4 a5 k1 k2 k3 k4 k5 c0 c1 c2 r0 r1 r2 p0 p1 p2 d0 d1 d2 h0 n0 _ T1982.heap _
      exact ⟨_, rfl, N1984, K2004, f1983⟩
    ·
      show own_Go _ _ _ _ _ (State.setTop _ (mkF _ 94 #[.val (.ref o), .val (.int (1 : Int32)), .val (.int (2 : Int32)), .val (.int (2 : Int32)), .unset] [(.int (1 : Int32))]))
      refine own_ifNo X1920 hx 97 rfl (hb hby own_d7_94) (by decide) ?_
      refine own_aloadN X1920 hx 98 rfl (hb hby own_d7_97) rfl rfl ?_
      refine own_getF X1920 hx hZ (host := "") hown (Or.inl (own_hw hw 19 rfl)) Via.refl e1920 f1914 101 rfl (hb hby own_d7_98) fun T2005 X2005 e2005 => ?_
      refine own_iconst X2005 hx 102 rfl (hb hby own_d7_101) (0 : Int32) rfl ?_
      refine own_iloadN X2005 hx 103 rfl (hb hby own_d7_102) rfl ?_
      refine own_stI X2005 hx hZ e2005 fk1900 ⟨by decide, by decide⟩ 0 rfl (Nat.le_of_ble_eq_true rfl) [(.int (2 : Int32)), (.int (1 : Int32))] rfl 104 rfl (hb hby own_d7_103) fun T2006 h2006 X2006 e2006 W2006 f2007 => ?_
      have f2008 := f1902.wr W2006
      have f2009 := f1903.other W2006 (Or.inl ne1817)
      have f2010 := f1904.other W2006 (Or.inl ne1817)
      have f2011 := f1905.other W2006 (Or.inl ne1817)
      have f2012 := f1906.other W2006 (Or.inl ne1817)
      have f2013 := f1907.other W2006 ne1818
      have f2014 := f1908.other W2006 ne1819
      have f2015 := f1909.other W2006 ne1820
      have f2016 := f1910.other W2006 ne1821
      have f2017 := f1911.other W2006 ne1822
      have f2018 := f1912.other W2006 (Or.inl ne1817)
      have f2019 := f1913.wr W2006
      have f2020 := f1914.other W2006 (Or.inl ne1817)
      have z2021 := Nat.le_trans z1916 (Keep.of_wr W2006).1
      have K2022 := K1917.wr W2006 (Or.inr sz1824)
      have N2023 := Fr.snoc X2006 N1921 ge1823
      refine own_aloadN X2006 hx 105 rfl (hb hby own_d7_104) rfl rfl ?_
      refine own_iloadN X2006 hx 106 rfl (hb hby own_d7_105) rfl ?_
      refine own_private X2006 hx hZ (y := (⟨"com/example/prizepath/prizepath/Insertions", "siftDown", "(I)V"⟩ : MethodName)) (z := (⟨"com/example/prizepath/prizepath/Insertions", "clear", "()V"⟩ : MethodName)) hown (own_hw hw 87 rfl) (own_hw hw 88 rfl) rfl (own_hw hw 24 rfl) (own_hw hw 89 rfl) (a := o) f2008 (by decide) (rm_dn2a l Z a0 hw [] o a1 a2 a3 a4 b1816 k1 k2 k3 k4 k1816 c0 c1 c2 r0 r1 r2 p0 p1 p2 d0 d1 d2 h2006 n0 z2021 f2008 f2009 f2010 f2011 f2012 f2020 f2013 f2014 f2015 f2016 f2007 ge1823 ne1818 ne1819 ne1820 ne1821 ne1817 nd0 nd1 nd2) (own_hw hw 90 rfl) (own_hw hw 2 rfl) (by decide) e2006 (by rw [hml]; rfl) [(.int (2 : Int32))] 0 (by decide) (Nat.le_of_eq rfl) (by decide) (by decide) (lenOf own_pd7 rfl) rfl rfl 109 rfl (hb hby own_d7_106) fun v2024 T2024 Lc2024 X2024 hQ2024 => ?_
      obtain ⟨rfl, Nq2024, Kq2024, fk2024⟩ := hQ2024
      have N2025 := Fr.app N2023 Nq2024
      have f2026 := f2008.keep Kq2024
      have f2027 := f2009.keep Kq2024 (ninS ne1817 nin0)
      have f2028 := f2010.keep Kq2024 (ninS ne1817 nin0)
      have f2029 := f2011.keep Kq2024 (ninS ne1817 nin0)
      have f2030 := f2012.keep Kq2024 (ninS ne1817 nin0)
      have f2031 := f2013.keep Kq2024 (ninS ne1818 nin0)
      have f2032 := f2014.keep Kq2024 (ninS ne1819 nin0)
      have f2033 := f2015.keep Kq2024 (ninS ne1820 nin0)
      have f2034 := f2016.keep Kq2024 (ninS ne1821 nin0)
      have f2035 := f2017.keep Kq2024 (ninS ne1822 nin0)
      have f2036 := f2018.keep Kq2024 (ninS ne1817 nin0)
      have f2037 := f2019.keep Kq2024
      have f2038 := f2020.keep Kq2024 (ninS ne1817 nin0)
      have z2040 := Nat.le_trans z2021 Kq2024.1
      have K2041 := K2022.trans Kq2024 (allS (Or.inr sz1824) all0)
      rcases fk2024 with fk2024 | fk2024
      ·
        show own_Go _ _ _ _ _ (State.setTop _ (mkF _ 109 #[.val (.ref o), .val (.int (1 : Int32)), .val (.int (2 : Int32)), .val (.int (2 : Int32)), .unset] []))
        refine own_iinc X2024 hx 112 rfl (hb hby own_d7_109) rfl #[.val (.ref o), .val (.int (1 : Int32)), .val (.int (2 : Int32)), .val (.int (3 : Int32)), .unset] rfl ?_
        refine own_goto X2024 hx 52 (hb hby own_d7_112) (by decide) rfl ?_
        refine own_iloadN X2024 hx 53 rfl (hb hby own_d7_52) rfl ?_
        refine own_aloadN X2024 hx 54 rfl (hb hby own_d7_53) rfl rfl ?_
        refine own_getF X2024 hx hZ (host := "") hown (Or.inl (own_hw hw 26 rfl)) Via.refl rfl f2036 57 rfl (hb hby own_d7_54) fun T2042 X2042 e2042 => ?_
        refine own_icmpYes X2042 hx 115 (hb hby own_d7_57) (by decide) (by decide) rfl ?_
        refine own_aloadN X2042 hx 116 rfl (hb hby own_d7_115) rfl rfl ?_
        refine own_getF X2042 hx hZ (host := "") hown (Or.inl (own_hw hw 19 rfl)) Via.refl e2042 f2038 119 rfl (hb hby own_d7_116) fun T2043 X2043 e2043 => ?_
        refine own_iconst X2043 hx 120 rfl (hb hby own_d7_119) (0 : Int32) rfl ?_
        refine own_ldI X2043 hx hZ e2043 fk2024 ⟨by decide, by decide⟩ (2 : Int32) rfl 121 rfl (hb hby own_d7_120) ?_
        refine own_istoreN X2043 hx 122 rfl (hb hby own_d7_121) #[.val (.ref o), .val (.int (1 : Int32)), .val (.int (2 : Int32)), .val (.int (2 : Int32)), .unset] rfl ?_
        refine own_new X2043 hx hZ hown (own_hw hw 53 rfl) (own_hw hw 54 rfl) (own_hw hw 55 rfl) e2043 125 rfl (hb hby own_d7_122) (by decide) (by decide) fun T2044 h2044 b2044 g2044 X2044 e2044 E2044 A2044 D2044 => ?_
        have ne2045 : o ≠ b2044 := Nat.ne_of_lt (Nat.lt_of_lt_of_le f2026.lt (Nat.le_of_eq g2044.symm))
        have ne2046 : a1 ≠ b2044 := Nat.ne_of_lt (Nat.lt_of_lt_of_le f2031.lt (Nat.le_of_eq g2044.symm))
        have ne2047 : a2 ≠ b2044 := Nat.ne_of_lt (Nat.lt_of_lt_of_le f2032.lt (Nat.le_of_eq g2044.symm))
        have ne2048 : a3 ≠ b2044 := Nat.ne_of_lt (Nat.lt_of_lt_of_le f2033.lt (Nat.le_of_eq g2044.symm))
        have ne2049 : a4 ≠ b2044 := Nat.ne_of_lt (Nat.lt_of_lt_of_le f2034.lt (Nat.le_of_eq g2044.symm))
        have ne2050 : a5 ≠ b2044 := Nat.ne_of_lt (Nat.lt_of_lt_of_le f2035.lt (Nat.le_of_eq g2044.symm))
        have ne2051 : b1816 ≠ b2044 := Nat.ne_of_lt (Nat.lt_of_lt_of_le f2037.lt (Nat.le_of_eq g2044.symm))
        have ge2052 : n0 ≤ b2044 := Nat.le_trans z2040 (Nat.le_of_eq g2044.symm)
        have sz2053 : h0.size ≤ b2044 := Nat.le_trans K2041.1 (Nat.le_of_eq g2044.symm)
        have f2054 := f2026.ext E2044
        have f2055 := f2027.ext E2044
        have f2056 := f2028.ext E2044
        have f2057 := f2029.ext E2044
        have f2058 := f2030.ext E2044
        have f2059 := f2031.ext E2044
        have f2060 := f2032.ext E2044
        have f2061 := f2033.ext E2044
        have f2062 := f2034.ext E2044
        have f2063 := f2035.ext E2044
        have f2064 := f2036.ext E2044
        have f2065 := f2037.ext E2044
        have f2066 := f2038.ext E2044
        have f2067 := fk2024.ext E2044
        have z2068 := Nat.le_trans z2040 E2044.1
        have K2069 := K2041.ext E2044
        have f2070 : Fld Z h2044 b2044 "com/example/prizepath/prizepath/Insertions$Insertion" "customer" "I" (.int (0 : Int32)) := D2044 (Or.inr (own_hw hw 66 rfl)) (ty := .int) (by decide)
        have f2071 : Fld Z h2044 b2044 "com/example/prizepath/prizepath/Insertions$Insertion" "route" "I" (.int (0 : Int32)) := D2044 (Or.inr (own_hw hw 68 rfl)) (ty := .int) (by decide)
        have f2072 : Fld Z h2044 b2044 "com/example/prizepath/prizepath/Insertions$Insertion" "place" "I" (.int (0 : Int32)) := D2044 (Or.inr (own_hw hw 70 rfl)) (ty := .int) (by decide)
        refine own_dup X2044 hx 126 rfl (hb hby own_d7_125) rfl ?_
        refine own_aloadN X2044 hx 127 rfl (hb hby own_d7_126) rfl rfl ?_
        refine own_getF X2044 hx hZ (host := "") hown (Or.inl (own_hw hw 10 rfl)) Via.refl e2044 f2055 130 rfl (hb hby own_d7_127) fun T2073 X2073 e2073 => ?_
        refine own_iloadN X2073 hx 131 rfl (hb hby own_d7_130) rfl ?_
        refine own_ldI X2073 hx hZ e2073 f2059 ⟨by decide, by decide⟩ c2 rfl 132 rfl (hb hby own_d7_131) ?_
        refine own_aloadN X2073 hx 133 rfl (hb hby own_d7_132) rfl rfl ?_
        refine own_getF X2073 hx hZ (host := "") hown (Or.inl (own_hw hw 12 rfl)) Via.refl e2073 f2056 136 rfl (hb hby own_d7_133) fun T2074 X2074 e2074 => ?_
        refine own_iloadN X2074 hx 137 rfl (hb hby own_d7_136) rfl ?_
        refine own_ldI X2074 hx hZ e2074 f2060 ⟨by decide, by decide⟩ r2 rfl 138 rfl (hb hby own_d7_137) ?_
        refine own_aloadN X2074 hx 139 rfl (hb hby own_d7_138) rfl rfl ?_
        refine own_getF X2074 hx hZ (host := "") hown (Or.inl (own_hw hw 14 rfl)) Via.refl e2074 f2057 142 rfl (hb hby own_d7_139) fun T2075 X2075 e2075 => ?_
        refine own_iloadN X2075 hx 143 rfl (hb hby own_d7_142) rfl ?_
        refine own_ldI X2075 hx hZ e2075 f2061 ⟨by decide, by decide⟩ p2 rfl 144 rfl (hb hby own_d7_143) ?_
        refine own_special X2075 hx hZ (y := (⟨"com/example/prizepath/prizepath/Insertions$Insertion", "<init>", "(III)V"⟩ : MethodName)) hown rfl (own_hw hw 56 rfl) (own_hw hw 57 rfl) (a := b2044) (by decide) rfl (rm_ins l Z a0 hw [] b2044 c2 r2 p2 h2044 n0 z2068 A2044 f2070 f2071 f2072 ge2052) (own_hw hw 58 rfl) (own_hw hw 55 rfl) (by decide) e2075 (by rw [hml]; rfl) [(.int c2), (.int r2), (.int p2)] 1 (by decide) (Nat.le_of_eq rfl) (by decide) (by decide) (lenOf own_pd8 rfl) rfl rfl 147 rfl (hb hby own_d7_144) fun v2076 T2076 Lc2076 X2076 hQ2076 => ?_
        obtain ⟨rfl, Nq2076, Kq2076, f2077, f2078, f2079, f2080⟩ := hQ2076
        have N2081 := Fr.app N2025 Nq2076
        have f2082 := f2054.keep Kq2076
        have f2083 := f2055.keep Kq2076 (ninS ne2045 nin0)
        have f2084 := f2056.keep Kq2076 (ninS ne2045 nin0)
        have f2085 := f2057.keep Kq2076 (ninS ne2045 nin0)
        have f2086 := f2058.keep Kq2076 (ninS ne2045 nin0)
        have f2087 := f2059.keep Kq2076 (ninS ne2046 nin0)
        have f2088 := f2060.keep Kq2076 (ninS ne2047 nin0)
        have f2089 := f2061.keep Kq2076 (ninS ne2048 nin0)
        have f2090 := f2062.keep Kq2076 (ninS ne2049 nin0)
        have f2091 := f2063.keep Kq2076 (ninS ne2050 nin0)
        have f2092 := f2064.keep Kq2076 (ninS ne2045 nin0)
        have f2093 := f2065.keep Kq2076
        have f2094 := f2066.keep Kq2076 (ninS ne2045 nin0)
        have f2095 := f2067.keep Kq2076 (ninS ne2051 nin0)
        have f2096 := A2044.keep Kq2076
        have z2100 := Nat.le_trans z2068 Kq2076.1
        have K2101 := K2069.trans Kq2076 (allS (Or.inr sz2053) all0)
        show own_Go _ _ _ _ _ (State.setTop _ (mkF _ 147 _ [(.ref b2044)]))
        refine own_astore X2076 hx 149 rfl (hb hby own_d7_147) rfl #[.val (.ref o), .val (.int (1 : Int32)), .val (.int (2 : Int32)), .val (.int (2 : Int32)), .val (.ref b2044)] rfl ?_
        refine own_aloadN X2076 hx 150 rfl (hb hby own_d7_149) rfl rfl ?_
        refine own_iloadN X2076 hx 151 rfl (hb hby own_d7_150) rfl ?_
        refine own_private X2076 hx hZ (y := (⟨"com/example/prizepath/prizepath/Insertions", "moveLastTo", "(I)V"⟩ : MethodName)) (z := (⟨"com/example/prizepath/prizepath/Insertions", "clear", "()V"⟩ : MethodName)) hown (own_hw hw 71 rfl) (own_hw hw 72 rfl) rfl (own_hw hw 24 rfl) (own_hw hw 73 rfl) (a := o) f2082 (by decide) (rm_mv32 l Z a0 hw [] o a1 a2 a3 a4 k1 k2 k3 k4 c0 c1 c2 r0 r1 r2 p0 p1 p2 d0 d1 d2 T2076.heap n0 z2100 f2082 f2083 f2084 f2085 f2086 f2087 f2088 f2089 f2090 f2092 g_o g_a1 g_a2 g_a3 g_a4 n_oa1 n_oa2 n_oa3 n_oa4 n_a1a2 n_a1a3 n_a1a4 n_a2a3 n_a2a4 n_a3a4) (own_hw hw 74 rfl) (own_hw hw 2 rfl) (by decide) rfl (by rw [hml]; rfl) [(.int (2 : Int32))] 0 (by decide) (Nat.le_of_eq rfl) (by decide) (by decide) (lenOf own_pd7 rfl) rfl rfl 154 rfl (hb hby own_d7_151) fun v2102 T2102 Lc2102 X2102 hQ2102 => ?_
        obtain ⟨rfl, Nq2102, Kq2102, f2103⟩ := hQ2102
        have N2104 := Fr.app N2081 Nq2102
        have f2105 := f2082.keep Kq2102
        have f2114 := f2091.keep Kq2102 (ninS (Ne.symm n_oa5) (ninS (Ne.symm n_a1a5) (ninS (Ne.symm n_a2a5) (ninS (Ne.symm n_a3a5) (ninS (Ne.symm n_a4a5) nin0)))))
        have f2116 := f2093.keep Kq2102
        have f2118 := f2095.keep Kq2102 (ninS (Ne.symm ne1817) (ninS (Ne.symm ne1818) (ninS (Ne.symm ne1819) (ninS (Ne.symm ne1820) (ninS (Ne.symm ne1821) nin0)))))
        have f2119 := f2077.keep Kq2102
        have f2120 := f2078.keep Kq2102 (ninS (Ne.symm ne2045) (ninS (Ne.symm ne2046) (ninS (Ne.symm ne2047) (ninS (Ne.symm ne2048) (ninS (Ne.symm ne2049) nin0)))))
        have f2121 := f2079.keep Kq2102 (ninS (Ne.symm ne2045) (ninS (Ne.symm ne2046) (ninS (Ne.symm ne2047) (ninS (Ne.symm ne2048) (ninS (Ne.symm ne2049) nin0)))))
        have f2122 := f2080.keep Kq2102 (ninS (Ne.symm ne2045) (ninS (Ne.symm ne2046) (ninS (Ne.symm ne2047) (ninS (Ne.symm ne2048) (ninS (Ne.symm ne2049) nin0)))))
        have z2123 := Nat.le_trans z2100 Kq2102.1
        have K2124 := K2101.trans Kq2102 (allS (Or.inl (List.mem_of_getElem? (i := 0) rfl)) (allS (Or.inl (List.mem_of_getElem? (i := 1) rfl)) (allS (Or.inl (List.mem_of_getElem? (i := 2) rfl)) (allS (Or.inl (List.mem_of_getElem? (i := 3) rfl)) (allS (Or.inl (List.mem_of_getElem? (i := 4) rfl)) all0)))))
        show own_Go _ _ _ _ _ (State.setTop _ (mkF _ 154 _ []))
        refine own_aload X2102 hx 156 rfl (hb hby own_d7_154) rfl rfl ?_
        refine own_ret X2102 (some (.ref b2044)) (fun h => by rw [Bd.returns] at h; cases h) Bd.notSynchronized (by decide) (by decide) ?_ (fun fs hr => own_retR X2102 hx Bd.returns rfl rfl (hb hby own_d7_156) hr)
        show Q_rm_take31 Z o a1 a2 a3 a4 a5 k1 k2 k3 k4 k5 c0 c1 c2 r0 r1 r2 p0 p1 p2 d0 d1 d2 h0 n0 _ T2102.heap _
        exact ⟨_, rfl, N2104, K2124, f2103⟩
      ·
        show own_Go _ _ _ _ _ (State.setTop _ (mkF _ 109 #[.val (.ref o), .val (.int (1 : Int32)), .val (.int (2 : Int32)), .val (.int (2 : Int32)), .unset] []))
        refine own_iinc X2024 hx 112 rfl (hb hby own_d7_109) rfl #[.val (.ref o), .val (.int (1 : Int32)), .val (.int (2 : Int32)), .val (.int (3 : Int32)), .unset] rfl ?_
        refine own_goto X2024 hx 52 (hb hby own_d7_112) (by decide) rfl ?_
        refine own_iloadN X2024 hx 53 rfl (hb hby own_d7_52) rfl ?_
        refine own_aloadN X2024 hx 54 rfl (hb hby own_d7_53) rfl rfl ?_
        refine own_getF X2024 hx hZ (host := "") hown (Or.inl (own_hw hw 26 rfl)) Via.refl rfl f2036 57 rfl (hb hby own_d7_54) fun T2125 X2125 e2125 => ?_
        refine own_icmpYes X2125 hx 115 (hb hby own_d7_57) (by decide) (by decide) rfl ?_
        refine own_aloadN X2125 hx 116 rfl (hb hby own_d7_115) rfl rfl ?_
        refine own_getF X2125 hx hZ (host := "") hown (Or.inl (own_hw hw 19 rfl)) Via.refl e2125 f2038 119 rfl (hb hby own_d7_116) fun T2126 X2126 e2126 => ?_
        refine own_iconst X2126 hx 120 rfl (hb hby own_d7_119) (0 : Int32) rfl ?_
        refine own_ldI X2126 hx hZ e2126 fk2024 ⟨by decide, by decide⟩ (1 : Int32) rfl 121 rfl (hb hby own_d7_120) ?_
        refine own_istoreN X2126 hx 122 rfl (hb hby own_d7_121) #[.val (.ref o), .val (.int (1 : Int32)), .val (.int (2 : Int32)), .val (.int (1 : Int32)), .unset] rfl ?_
        refine own_new X2126 hx hZ hown (own_hw hw 53 rfl) (own_hw hw 54 rfl) (own_hw hw 55 rfl) e2126 125 rfl (hb hby own_d7_122) (by decide) (by decide) fun T2127 h2127 b2127 g2127 X2127 e2127 E2127 A2127 D2127 => ?_
        have ne2128 : o ≠ b2127 := Nat.ne_of_lt (Nat.lt_of_lt_of_le f2026.lt (Nat.le_of_eq g2127.symm))
        have ne2129 : a1 ≠ b2127 := Nat.ne_of_lt (Nat.lt_of_lt_of_le f2031.lt (Nat.le_of_eq g2127.symm))
        have ne2130 : a2 ≠ b2127 := Nat.ne_of_lt (Nat.lt_of_lt_of_le f2032.lt (Nat.le_of_eq g2127.symm))
        have ne2131 : a3 ≠ b2127 := Nat.ne_of_lt (Nat.lt_of_lt_of_le f2033.lt (Nat.le_of_eq g2127.symm))
        have ne2132 : a4 ≠ b2127 := Nat.ne_of_lt (Nat.lt_of_lt_of_le f2034.lt (Nat.le_of_eq g2127.symm))
        have ne2133 : a5 ≠ b2127 := Nat.ne_of_lt (Nat.lt_of_lt_of_le f2035.lt (Nat.le_of_eq g2127.symm))
        have ne2134 : b1816 ≠ b2127 := Nat.ne_of_lt (Nat.lt_of_lt_of_le f2037.lt (Nat.le_of_eq g2127.symm))
        have ge2135 : n0 ≤ b2127 := Nat.le_trans z2040 (Nat.le_of_eq g2127.symm)
        have sz2136 : h0.size ≤ b2127 := Nat.le_trans K2041.1 (Nat.le_of_eq g2127.symm)
        have f2137 := f2026.ext E2127
        have f2138 := f2027.ext E2127
        have f2139 := f2028.ext E2127
        have f2140 := f2029.ext E2127
        have f2141 := f2030.ext E2127
        have f2142 := f2031.ext E2127
        have f2143 := f2032.ext E2127
        have f2144 := f2033.ext E2127
        have f2145 := f2034.ext E2127
        have f2146 := f2035.ext E2127
        have f2147 := f2036.ext E2127
        have f2148 := f2037.ext E2127
        have f2149 := f2038.ext E2127
        have f2150 := fk2024.ext E2127
        have z2151 := Nat.le_trans z2040 E2127.1
        have K2152 := K2041.ext E2127
        have f2153 : Fld Z h2127 b2127 "com/example/prizepath/prizepath/Insertions$Insertion" "customer" "I" (.int (0 : Int32)) := D2127 (Or.inr (own_hw hw 66 rfl)) (ty := .int) (by decide)
        have f2154 : Fld Z h2127 b2127 "com/example/prizepath/prizepath/Insertions$Insertion" "route" "I" (.int (0 : Int32)) := D2127 (Or.inr (own_hw hw 68 rfl)) (ty := .int) (by decide)
        have f2155 : Fld Z h2127 b2127 "com/example/prizepath/prizepath/Insertions$Insertion" "place" "I" (.int (0 : Int32)) := D2127 (Or.inr (own_hw hw 70 rfl)) (ty := .int) (by decide)
        refine own_dup X2127 hx 126 rfl (hb hby own_d7_125) rfl ?_
        refine own_aloadN X2127 hx 127 rfl (hb hby own_d7_126) rfl rfl ?_
        refine own_getF X2127 hx hZ (host := "") hown (Or.inl (own_hw hw 10 rfl)) Via.refl e2127 f2138 130 rfl (hb hby own_d7_127) fun T2156 X2156 e2156 => ?_
        refine own_iloadN X2156 hx 131 rfl (hb hby own_d7_130) rfl ?_
        refine own_ldI X2156 hx hZ e2156 f2142 ⟨by decide, by decide⟩ c1 rfl 132 rfl (hb hby own_d7_131) ?_
        refine own_aloadN X2156 hx 133 rfl (hb hby own_d7_132) rfl rfl ?_
        refine own_getF X2156 hx hZ (host := "") hown (Or.inl (own_hw hw 12 rfl)) Via.refl e2156 f2139 136 rfl (hb hby own_d7_133) fun T2157 X2157 e2157 => ?_
        refine own_iloadN X2157 hx 137 rfl (hb hby own_d7_136) rfl ?_
        refine own_ldI X2157 hx hZ e2157 f2143 ⟨by decide, by decide⟩ r1 rfl 138 rfl (hb hby own_d7_137) ?_
        refine own_aloadN X2157 hx 139 rfl (hb hby own_d7_138) rfl rfl ?_
        refine own_getF X2157 hx hZ (host := "") hown (Or.inl (own_hw hw 14 rfl)) Via.refl e2157 f2140 142 rfl (hb hby own_d7_139) fun T2158 X2158 e2158 => ?_
        refine own_iloadN X2158 hx 143 rfl (hb hby own_d7_142) rfl ?_
        refine own_ldI X2158 hx hZ e2158 f2144 ⟨by decide, by decide⟩ p1 rfl 144 rfl (hb hby own_d7_143) ?_
        refine own_special X2158 hx hZ (y := (⟨"com/example/prizepath/prizepath/Insertions$Insertion", "<init>", "(III)V"⟩ : MethodName)) hown rfl (own_hw hw 56 rfl) (own_hw hw 57 rfl) (a := b2127) (by decide) rfl (rm_ins l Z a0 hw [] b2127 c1 r1 p1 h2127 n0 z2151 A2127 f2153 f2154 f2155 ge2135) (own_hw hw 58 rfl) (own_hw hw 55 rfl) (by decide) e2158 (by rw [hml]; rfl) [(.int c1), (.int r1), (.int p1)] 1 (by decide) (Nat.le_of_eq rfl) (by decide) (by decide) (lenOf own_pd8 rfl) rfl rfl 147 rfl (hb hby own_d7_144) fun v2159 T2159 Lc2159 X2159 hQ2159 => ?_
        obtain ⟨rfl, Nq2159, Kq2159, f2160, f2161, f2162, f2163⟩ := hQ2159
        have N2164 := Fr.app N2025 Nq2159
        have f2165 := f2137.keep Kq2159
        have f2166 := f2138.keep Kq2159 (ninS ne2128 nin0)
        have f2167 := f2139.keep Kq2159 (ninS ne2128 nin0)
        have f2168 := f2140.keep Kq2159 (ninS ne2128 nin0)
        have f2169 := f2141.keep Kq2159 (ninS ne2128 nin0)
        have f2170 := f2142.keep Kq2159 (ninS ne2129 nin0)
        have f2171 := f2143.keep Kq2159 (ninS ne2130 nin0)
        have f2172 := f2144.keep Kq2159 (ninS ne2131 nin0)
        have f2173 := f2145.keep Kq2159 (ninS ne2132 nin0)
        have f2174 := f2146.keep Kq2159 (ninS ne2133 nin0)
        have f2175 := f2147.keep Kq2159 (ninS ne2128 nin0)
        have f2176 := f2148.keep Kq2159
        have f2177 := f2149.keep Kq2159 (ninS ne2128 nin0)
        have f2178 := f2150.keep Kq2159 (ninS ne2134 nin0)
        have f2179 := A2127.keep Kq2159
        have z2183 := Nat.le_trans z2151 Kq2159.1
        have K2184 := K2152.trans Kq2159 (allS (Or.inr sz2136) all0)
        show own_Go _ _ _ _ _ (State.setTop _ (mkF _ 147 _ [(.ref b2127)]))
        refine own_astore X2159 hx 149 rfl (hb hby own_d7_147) rfl #[.val (.ref o), .val (.int (1 : Int32)), .val (.int (2 : Int32)), .val (.int (1 : Int32)), .val (.ref b2127)] rfl ?_
        refine own_aloadN X2159 hx 150 rfl (hb hby own_d7_149) rfl rfl ?_
        refine own_iloadN X2159 hx 151 rfl (hb hby own_d7_150) rfl ?_
        refine own_private X2159 hx hZ (y := (⟨"com/example/prizepath/prizepath/Insertions", "moveLastTo", "(I)V"⟩ : MethodName)) (z := (⟨"com/example/prizepath/prizepath/Insertions", "clear", "()V"⟩ : MethodName)) hown (own_hw hw 71 rfl) (own_hw hw 72 rfl) rfl (own_hw hw 24 rfl) (own_hw hw 73 rfl) (a := o) f2165 (by decide) (rm_mv31 l Z a0 hw [] o a1 a2 a3 a4 k1 k2 k3 k4 c0 c1 c2 r0 r1 r2 p0 p1 p2 d0 d1 d2 T2159.heap n0 z2183 f2165 f2166 f2167 f2168 f2169 f2170 f2171 f2172 f2173 f2175 g_o g_a1 g_a2 g_a3 g_a4 n_oa1 n_oa2 n_oa3 n_oa4 n_a1a2 n_a1a3 n_a1a4 n_a2a3 n_a2a4 n_a3a4) (own_hw hw 74 rfl) (own_hw hw 2 rfl) (by decide) rfl (by rw [hml]; rfl) [(.int (1 : Int32))] 0 (by decide) (Nat.le_of_eq rfl) (by decide) (by decide) (lenOf own_pd7 rfl) rfl rfl 154 rfl (hb hby own_d7_151) fun v2185 T2185 Lc2185 X2185 hQ2185 => ?_
        obtain ⟨rfl, Nq2185, Kq2185, f2186⟩ := hQ2185
        have N2187 := Fr.app N2164 Nq2185
        have f2188 := f2165.keep Kq2185
        have f2197 := f2174.keep Kq2185 (ninS (Ne.symm n_oa5) (ninS (Ne.symm n_a1a5) (ninS (Ne.symm n_a2a5) (ninS (Ne.symm n_a3a5) (ninS (Ne.symm n_a4a5) nin0)))))
        have f2199 := f2176.keep Kq2185
        have f2201 := f2178.keep Kq2185 (ninS (Ne.symm ne1817) (ninS (Ne.symm ne1818) (ninS (Ne.symm ne1819) (ninS (Ne.symm ne1820) (ninS (Ne.symm ne1821) nin0)))))
        have f2202 := f2160.keep Kq2185
        have f2203 := f2161.keep Kq2185 (ninS (Ne.symm ne2128) (ninS (Ne.symm ne2129) (ninS (Ne.symm ne2130) (ninS (Ne.symm ne2131) (ninS (Ne.symm ne2132) nin0)))))
        have f2204 := f2162.keep Kq2185 (ninS (Ne.symm ne2128) (ninS (Ne.symm ne2129) (ninS (Ne.symm ne2130) (ninS (Ne.symm ne2131) (ninS (Ne.symm ne2132) nin0)))))
        have f2205 := f2163.keep Kq2185 (ninS (Ne.symm ne2128) (ninS (Ne.symm ne2129) (ninS (Ne.symm ne2130) (ninS (Ne.symm ne2131) (ninS (Ne.symm ne2132) nin0)))))
        have z2206 := Nat.le_trans z2183 Kq2185.1
        have K2207 := K2184.trans Kq2185 (allS (Or.inl (List.mem_of_getElem? (i := 0) rfl)) (allS (Or.inl (List.mem_of_getElem? (i := 1) rfl)) (allS (Or.inl (List.mem_of_getElem? (i := 2) rfl)) (allS (Or.inl (List.mem_of_getElem? (i := 3) rfl)) (allS (Or.inl (List.mem_of_getElem? (i := 4) rfl)) all0)))))
        show own_Go _ _ _ _ _ (State.setTop _ (mkF _ 154 _ []))
        refine own_aload X2185 hx 156 rfl (hb hby own_d7_154) rfl rfl ?_
        refine own_ret X2185 (some (.ref b2127)) (fun h => by rw [Bd.returns] at h; cases h) Bd.notSynchronized (by decide) (by decide) ?_ (fun fs hr => own_retR X2185 hx Bd.returns rfl rfl (hb hby own_d7_156) hr)
        show Q_rm_take31 Z o a1 a2 a3 a4 a5 k1 k2 k3 k4 k5 c0 c1 c2 r0 r1 r2 p0 p1 p2 d0 d1 d2 h0 n0 _ T2185.heap _
        exact ⟨_, rfl, N2187, K2207, f2186⟩
  ·
    show own_Go _ _ _ _ _ (State.setTop _ (mkF _ 77 #[.val (.ref o), .val (.int (1 : Int32)), .val (.int (1 : Int32)), .val (.int (1 : Int32)), .unset] []))
    refine own_iinc X1900 hx 80 rfl (hb hby own_d7_77) rfl #[.val (.ref o), .val (.int (1 : Int32)), .val (.int (2 : Int32)), .val (.int (1 : Int32)), .unset] rfl ?_
    refine own_goto X1900 hx 109 (hb hby own_d7_80) (by decide) rfl ?_
    refine own_iinc X1900 hx 112 rfl (hb hby own_d7_109) rfl #[.val (.ref o), .val (.int (1 : Int32)), .val (.int (2 : Int32)), .val (.int (2 : Int32)), .unset] rfl ?_
    refine own_goto X1900 hx 52 (hb hby own_d7_112) (by decide) rfl ?_
    refine own_iloadN X1900 hx 53 rfl (hb hby own_d7_52) rfl ?_
    refine own_aloadN X1900 hx 54 rfl (hb hby own_d7_53) rfl rfl ?_
    refine own_getF X1900 hx hZ (host := "") hown (Or.inl (own_hw hw 26 rfl)) Via.refl rfl f1912 57 rfl (hb hby own_d7_54) fun T2208 X2208 e2208 => ?_
    refine own_icmpNo X2208 hx 60 rfl (hb hby own_d7_57) (by decide) ?_
    refine own_iloadN X2208 hx 61 rfl (hb hby own_d7_60) rfl ?_
    refine own_iloadN X2208 hx 62 rfl (hb hby own_d7_61) rfl ?_
    refine own_icmpYes X2208 hx 83 (hb hby own_d7_62) (by decide) (by decide) rfl ?_
    refine own_aloadN X2208 hx 84 rfl (hb hby own_d7_83) rfl rfl ?_
    refine own_iloadN X2208 hx 85 rfl (hb hby own_d7_84) rfl ?_
    refine own_aloadN X2208 hx 86 rfl (hb hby own_d7_85) rfl rfl ?_
    refine own_getF X2208 hx hZ (host := "") hown (Or.inl (own_hw hw 19 rfl)) Via.refl e2208 f1914 89 rfl (hb hby own_d7_86) fun T2209 X2209 e2209 => ?_
    refine own_iconst X2209 hx 90 rfl (hb hby own_d7_89) (0 : Int32) rfl ?_
    refine own_ldI X2209 hx hZ e2209 fk1900 ⟨by decide, by decide⟩ (1 : Int32) rfl 91 rfl (hb hby own_d7_90) ?_
    refine own_private X2209 hx hZ (y := (⟨"com/example/prizepath/prizepath/Insertions", "ranksBefore", "(II)Z"⟩ : MethodName)) (z := (⟨"com/example/prizepath/prizepath/Insertions", "clear", "()V"⟩ : MethodName)) hown (own_hw hw 75 rfl) (own_hw hw 76 rfl) rfl (own_hw hw 24 rfl) (own_hw hw 77 rfl) (a := o) f1902 (by decide) (rm_rb l Z a0 hw [] o (2 : Int32) (1 : Int32) a1 a2 a3 a4 k1 k2 k3 k4 [(.int c0), (.int c1), (.int c2)] [(.int r0), (.int r1), (.int r2)] [(.int p0), (.int p1), (.int p2)] [(.double d0), (.double d1), (.double d2)] d2 d1 c2 c1 r2 r1 p2 p1 T1900.heap n0 z1916 f1903 f1904 f1905 f1906 f1907 f1908 f1909 f1910 ⟨by decide, by decide⟩ ⟨by decide, by decide⟩ rfl rfl rfl rfl rfl rfl rfl rfl nd2 nd1) (own_hw hw 78 rfl) (own_hw hw 2 rfl) (by decide) e2209 (by rw [hml]; rfl) [(.int (2 : Int32)), (.int (1 : Int32))] 0 (by decide) (Nat.le_of_eq rfl) (by decide) (by decide) (lenOf own_pd4 rfl) rfl rfl 94 rfl (hb hby own_d7_91) fun v2210 T2210 Lc2210 X2210 hQ2210 => ?_
    obtain ⟨z2210, rfl, Nq2210, e2210, hz2210⟩ := hQ2210
    have N2211 := Fr.app N1901 Nq2210
    rcases hz2210 with rfl | rfl
    ·
      show own_Go _ _ _ _ _ (State.setTop _ (mkF _ 94 #[.val (.ref o), .val (.int (1 : Int32)), .val (.int (2 : Int32)), .val (.int (2 : Int32)), .unset] [(.int (0 : Int32))]))
      refine own_ifYes X2210 hx 109 (hb hby own_d7_94) (by decide) (by decide) rfl ?_
      refine own_iinc X2210 hx 112 rfl (hb hby own_d7_109) rfl #[.val (.ref o), .val (.int (1 : Int32)), .val (.int (2 : Int32)), .val (.int (3 : Int32)), .unset] rfl ?_
      refine own_goto X2210 hx 52 (hb hby own_d7_112) (by decide) rfl ?_
      refine own_iloadN X2210 hx 53 rfl (hb hby own_d7_52) rfl ?_
      refine own_aloadN X2210 hx 54 rfl (hb hby own_d7_53) rfl rfl ?_
      refine own_getF X2210 hx hZ (host := "") hown (Or.inl (own_hw hw 26 rfl)) Via.refl e2210 f1912 57 rfl (hb hby own_d7_54) fun T2212 X2212 e2212 => ?_
      refine own_icmpYes X2212 hx 115 (hb hby own_d7_57) (by decide) (by decide) rfl ?_
      refine own_aloadN X2212 hx 116 rfl (hb hby own_d7_115) rfl rfl ?_
      refine own_getF X2212 hx hZ (host := "") hown (Or.inl (own_hw hw 19 rfl)) Via.refl e2212 f1914 119 rfl (hb hby own_d7_116) fun T2213 X2213 e2213 => ?_
      refine own_iconst X2213 hx 120 rfl (hb hby own_d7_119) (0 : Int32) rfl ?_
      refine own_ldI X2213 hx hZ e2213 fk1900 ⟨by decide, by decide⟩ (1 : Int32) rfl 121 rfl (hb hby own_d7_120) ?_
      refine own_istoreN X2213 hx 122 rfl (hb hby own_d7_121) #[.val (.ref o), .val (.int (1 : Int32)), .val (.int (2 : Int32)), .val (.int (1 : Int32)), .unset] rfl ?_
      refine own_new X2213 hx hZ hown (own_hw hw 53 rfl) (own_hw hw 54 rfl) (own_hw hw 55 rfl) e2213 125 rfl (hb hby own_d7_122) (by decide) (by decide) fun T2214 h2214 b2214 g2214 X2214 e2214 E2214 A2214 D2214 => ?_
      have ne2215 : o ≠ b2214 := Nat.ne_of_lt (Nat.lt_of_lt_of_le f1902.lt (Nat.le_of_eq g2214.symm))
      have ne2216 : a1 ≠ b2214 := Nat.ne_of_lt (Nat.lt_of_lt_of_le f1907.lt (Nat.le_of_eq g2214.symm))
      have ne2217 : a2 ≠ b2214 := Nat.ne_of_lt (Nat.lt_of_lt_of_le f1908.lt (Nat.le_of_eq g2214.symm))
      have ne2218 : a3 ≠ b2214 := Nat.ne_of_lt (Nat.lt_of_lt_of_le f1909.lt (Nat.le_of_eq g2214.symm))
      have ne2219 : a4 ≠ b2214 := Nat.ne_of_lt (Nat.lt_of_lt_of_le f1910.lt (Nat.le_of_eq g2214.symm))
      have ne2220 : a5 ≠ b2214 := Nat.ne_of_lt (Nat.lt_of_lt_of_le f1911.lt (Nat.le_of_eq g2214.symm))
      have ne2221 : b1816 ≠ b2214 := Nat.ne_of_lt (Nat.lt_of_lt_of_le f1913.lt (Nat.le_of_eq g2214.symm))
      have ge2222 : n0 ≤ b2214 := Nat.le_trans z1916 (Nat.le_of_eq g2214.symm)
      have sz2223 : h0.size ≤ b2214 := Nat.le_trans K1917.1 (Nat.le_of_eq g2214.symm)
      have f2224 := f1902.ext E2214
      have f2225 := f1903.ext E2214
      have f2226 := f1904.ext E2214
      have f2227 := f1905.ext E2214
      have f2228 := f1906.ext E2214
      have f2229 := f1907.ext E2214
      have f2230 := f1908.ext E2214
      have f2231 := f1909.ext E2214
      have f2232 := f1910.ext E2214
      have f2233 := f1911.ext E2214
      have f2234 := f1912.ext E2214
      have f2235 := f1913.ext E2214
      have f2236 := f1914.ext E2214
      have f2237 := fk1900.ext E2214
      have z2238 := Nat.le_trans z1916 E2214.1
      have K2239 := K1917.ext E2214
      have f2240 : Fld Z h2214 b2214 "com/example/prizepath/prizepath/Insertions$Insertion" "customer" "I" (.int (0 : Int32)) := D2214 (Or.inr (own_hw hw 66 rfl)) (ty := .int) (by decide)
      have f2241 : Fld Z h2214 b2214 "com/example/prizepath/prizepath/Insertions$Insertion" "route" "I" (.int (0 : Int32)) := D2214 (Or.inr (own_hw hw 68 rfl)) (ty := .int) (by decide)
      have f2242 : Fld Z h2214 b2214 "com/example/prizepath/prizepath/Insertions$Insertion" "place" "I" (.int (0 : Int32)) := D2214 (Or.inr (own_hw hw 70 rfl)) (ty := .int) (by decide)
      refine own_dup X2214 hx 126 rfl (hb hby own_d7_125) rfl ?_
      refine own_aloadN X2214 hx 127 rfl (hb hby own_d7_126) rfl rfl ?_
      refine own_getF X2214 hx hZ (host := "") hown (Or.inl (own_hw hw 10 rfl)) Via.refl e2214 f2225 130 rfl (hb hby own_d7_127) fun T2243 X2243 e2243 => ?_
      refine own_iloadN X2243 hx 131 rfl (hb hby own_d7_130) rfl ?_
      refine own_ldI X2243 hx hZ e2243 f2229 ⟨by decide, by decide⟩ c1 rfl 132 rfl (hb hby own_d7_131) ?_
      refine own_aloadN X2243 hx 133 rfl (hb hby own_d7_132) rfl rfl ?_
      refine own_getF X2243 hx hZ (host := "") hown (Or.inl (own_hw hw 12 rfl)) Via.refl e2243 f2226 136 rfl (hb hby own_d7_133) fun T2244 X2244 e2244 => ?_
      refine own_iloadN X2244 hx 137 rfl (hb hby own_d7_136) rfl ?_
      refine own_ldI X2244 hx hZ e2244 f2230 ⟨by decide, by decide⟩ r1 rfl 138 rfl (hb hby own_d7_137) ?_
      refine own_aloadN X2244 hx 139 rfl (hb hby own_d7_138) rfl rfl ?_
      refine own_getF X2244 hx hZ (host := "") hown (Or.inl (own_hw hw 14 rfl)) Via.refl e2244 f2227 142 rfl (hb hby own_d7_139) fun T2245 X2245 e2245 => ?_
      refine own_iloadN X2245 hx 143 rfl (hb hby own_d7_142) rfl ?_
      refine own_ldI X2245 hx hZ e2245 f2231 ⟨by decide, by decide⟩ p1 rfl 144 rfl (hb hby own_d7_143) ?_
      refine own_special X2245 hx hZ (y := (⟨"com/example/prizepath/prizepath/Insertions$Insertion", "<init>", "(III)V"⟩ : MethodName)) hown rfl (own_hw hw 56 rfl) (own_hw hw 57 rfl) (a := b2214) (by decide) rfl (rm_ins l Z a0 hw [] b2214 c1 r1 p1 h2214 n0 z2238 A2214 f2240 f2241 f2242 ge2222) (own_hw hw 58 rfl) (own_hw hw 55 rfl) (by decide) e2245 (by rw [hml]; rfl) [(.int c1), (.int r1), (.int p1)] 1 (by decide) (Nat.le_of_eq rfl) (by decide) (by decide) (lenOf own_pd8 rfl) rfl rfl 147 rfl (hb hby own_d7_144) fun v2246 T2246 Lc2246 X2246 hQ2246 => ?_
      obtain ⟨rfl, Nq2246, Kq2246, f2247, f2248, f2249, f2250⟩ := hQ2246
      have N2251 := Fr.app N2211 Nq2246
      have f2252 := f2224.keep Kq2246
      have f2253 := f2225.keep Kq2246 (ninS ne2215 nin0)
      have f2254 := f2226.keep Kq2246 (ninS ne2215 nin0)
      have f2255 := f2227.keep Kq2246 (ninS ne2215 nin0)
      have f2256 := f2228.keep Kq2246 (ninS ne2215 nin0)
      have f2257 := f2229.keep Kq2246 (ninS ne2216 nin0)
      have f2258 := f2230.keep Kq2246 (ninS ne2217 nin0)
      have f2259 := f2231.keep Kq2246 (ninS ne2218 nin0)
      have f2260 := f2232.keep Kq2246 (ninS ne2219 nin0)
      have f2261 := f2233.keep Kq2246 (ninS ne2220 nin0)
      have f2262 := f2234.keep Kq2246 (ninS ne2215 nin0)
      have f2263 := f2235.keep Kq2246
      have f2264 := f2236.keep Kq2246 (ninS ne2215 nin0)
      have f2265 := f2237.keep Kq2246 (ninS ne2221 nin0)
      have f2266 := A2214.keep Kq2246
      have z2270 := Nat.le_trans z2238 Kq2246.1
      have K2271 := K2239.trans Kq2246 (allS (Or.inr sz2223) all0)
      show own_Go _ _ _ _ _ (State.setTop _ (mkF _ 147 _ [(.ref b2214)]))
      refine own_astore X2246 hx 149 rfl (hb hby own_d7_147) rfl #[.val (.ref o), .val (.int (1 : Int32)), .val (.int (2 : Int32)), .val (.int (1 : Int32)), .val (.ref b2214)] rfl ?_
      refine own_aloadN X2246 hx 150 rfl (hb hby own_d7_149) rfl rfl ?_
      refine own_iloadN X2246 hx 151 rfl (hb hby own_d7_150) rfl ?_
      refine own_private X2246 hx hZ (y := (⟨"com/example/prizepath/prizepath/Insertions", "moveLastTo", "(I)V"⟩ : MethodName)) (z := (⟨"com/example/prizepath/prizepath/Insertions", "clear", "()V"⟩ : MethodName)) hown (own_hw hw 71 rfl) (own_hw hw 72 rfl) rfl (own_hw hw 24 rfl) (own_hw hw 73 rfl) (a := o) f2252 (by decide) (rm_mv31 l Z a0 hw [] o a1 a2 a3 a4 k1 k2 k3 k4 c0 c1 c2 r0 r1 r2 p0 p1 p2 d0 d1 d2 T2246.heap n0 z2270 f2252 f2253 f2254 f2255 f2256 f2257 f2258 f2259 f2260 f2262 g_o g_a1 g_a2 g_a3 g_a4 n_oa1 n_oa2 n_oa3 n_oa4 n_a1a2 n_a1a3 n_a1a4 n_a2a3 n_a2a4 n_a3a4) (own_hw hw 74 rfl) (own_hw hw 2 rfl) (by decide) rfl (by rw [hml]; rfl) [(.int (1 : Int32))] 0 (by decide) (Nat.le_of_eq rfl) (by decide) (by decide) (lenOf own_pd7 rfl) rfl rfl 154 rfl (hb hby own_d7_151) fun v2272 T2272 Lc2272 X2272 hQ2272 => ?_
      obtain ⟨rfl, Nq2272, Kq2272, f2273⟩ := hQ2272
      have N2274 := Fr.app N2251 Nq2272
      have f2275 := f2252.keep Kq2272
      have f2284 := f2261.keep Kq2272 (ninS (Ne.symm n_oa5) (ninS (Ne.symm n_a1a5) (ninS (Ne.symm n_a2a5) (ninS (Ne.symm n_a3a5) (ninS (Ne.symm n_a4a5) nin0)))))
      have f2286 := f2263.keep Kq2272
      have f2288 := f2265.keep Kq2272 (ninS (Ne.symm ne1817) (ninS (Ne.symm ne1818) (ninS (Ne.symm ne1819) (ninS (Ne.symm ne1820) (ninS (Ne.symm ne1821) nin0)))))
      have f2289 := f2247.keep Kq2272
      have f2290 := f2248.keep Kq2272 (ninS (Ne.symm ne2215) (ninS (Ne.symm ne2216) (ninS (Ne.symm ne2217) (ninS (Ne.symm ne2218) (ninS (Ne.symm ne2219) nin0)))))
      have f2291 := f2249.keep Kq2272 (ninS (Ne.symm ne2215) (ninS (Ne.symm ne2216) (ninS (Ne.symm ne2217) (ninS (Ne.symm ne2218) (ninS (Ne.symm ne2219) nin0)))))
      have f2292 := f2250.keep Kq2272 (ninS (Ne.symm ne2215) (ninS (Ne.symm ne2216) (ninS (Ne.symm ne2217) (ninS (Ne.symm ne2218) (ninS (Ne.symm ne2219) nin0)))))
      have z2293 := Nat.le_trans z2270 Kq2272.1
      have K2294 := K2271.trans Kq2272 (allS (Or.inl (List.mem_of_getElem? (i := 0) rfl)) (allS (Or.inl (List.mem_of_getElem? (i := 1) rfl)) (allS (Or.inl (List.mem_of_getElem? (i := 2) rfl)) (allS (Or.inl (List.mem_of_getElem? (i := 3) rfl)) (allS (Or.inl (List.mem_of_getElem? (i := 4) rfl)) all0)))))
      show own_Go _ _ _ _ _ (State.setTop _ (mkF _ 154 _ []))
      refine own_aload X2272 hx 156 rfl (hb hby own_d7_154) rfl rfl ?_
      refine own_ret X2272 (some (.ref b2214)) (fun h => by rw [Bd.returns] at h; cases h) Bd.notSynchronized (by decide) (by decide) ?_ (fun fs hr => own_retR X2272 hx Bd.returns rfl rfl (hb hby own_d7_156) hr)
      show Q_rm_take31 Z o a1 a2 a3 a4 a5 k1 k2 k3 k4 k5 c0 c1 c2 r0 r1 r2 p0 p1 p2 d0 d1 d2 h0 n0 _ T2272.heap _
      exact ⟨_, rfl, N2274, K2294, f2273⟩
    ·
      show own_Go _ _ _ _ _ (State.setTop _ (mkF _ 94 #[.val (.ref o), .val (.int (1 : Int32)), .val (.int (2 : Int32)), .val (.int (2 : Int32)), .unset] [(.int (1 : Int32))]))
      refine own_ifNo X2210 hx 97 rfl (hb hby own_d7_94) (by decide) ?_
      refine own_aloadN X2210 hx 98 rfl (hb hby own_d7_97) rfl rfl ?_
      refine own_getF X2210 hx hZ (host := "") hown (Or.inl (own_hw hw 19 rfl)) Via.refl e2210 f1914 101 rfl (hb hby own_d7_98) fun T2295 X2295 e2295 => ?_
      refine own_iconst X2295 hx 102 rfl (hb hby own_d7_101) (0 : Int32) rfl ?_
      refine own_iloadN X2295 hx 103 rfl (hb hby own_d7_102) rfl ?_
      refine own_stI X2295 hx hZ e2295 fk1900 ⟨by decide, by decide⟩ 0 rfl (Nat.le_of_ble_eq_true rfl) [(.int (2 : Int32)), (.int (0 : Int32))] rfl 104 rfl (hb hby own_d7_103) fun T2296 h2296 X2296 e2296 W2296 f2297 => ?_
      have f2298 := f1902.wr W2296
      have f2299 := f1903.other W2296 (Or.inl ne1817)
      have f2300 := f1904.other W2296 (Or.inl ne1817)
      have f2301 := f1905.other W2296 (Or.inl ne1817)
      have f2302 := f1906.other W2296 (Or.inl ne1817)
      have f2303 := f1907.other W2296 ne1818
      have f2304 := f1908.other W2296 ne1819
      have f2305 := f1909.other W2296 ne1820
      have f2306 := f1910.other W2296 ne1821
      have f2307 := f1911.other W2296 ne1822
      have f2308 := f1912.other W2296 (Or.inl ne1817)
      have f2309 := f1913.wr W2296
      have f2310 := f1914.other W2296 (Or.inl ne1817)
      have z2311 := Nat.le_trans z1916 (Keep.of_wr W2296).1
      have K2312 := K1917.wr W2296 (Or.inr sz1824)
      have N2313 := Fr.snoc X2296 N2211 ge1823
      refine own_aloadN X2296 hx 105 rfl (hb hby own_d7_104) rfl rfl ?_
      refine own_iloadN X2296 hx 106 rfl (hb hby own_d7_105) rfl ?_
      refine own_private X2296 hx hZ (y := (⟨"com/example/prizepath/prizepath/Insertions", "siftDown", "(I)V"⟩ : MethodName)) (z := (⟨"com/example/prizepath/prizepath/Insertions", "clear", "()V"⟩ : MethodName)) hown (own_hw hw 87 rfl) (own_hw hw 88 rfl) rfl (own_hw hw 24 rfl) (own_hw hw 89 rfl) (a := o) f2298 (by decide) (rm_dn2b l Z a0 hw [] o a1 a2 a3 a4 b1816 k1 k2 k3 k4 k1816 c0 c1 c2 r0 r1 r2 p0 p1 p2 d0 d1 d2 h2296 n0 z2311 f2298 f2299 f2300 f2301 f2302 f2310 f2303 f2304 f2305 f2306 f2297 ge1823 ne1818 ne1819 ne1820 ne1821 ne1817 nd0 nd1 nd2) (own_hw hw 90 rfl) (own_hw hw 2 rfl) (by decide) e2296 (by rw [hml]; rfl) [(.int (2 : Int32))] 0 (by decide) (Nat.le_of_eq rfl) (by decide) (by decide) (lenOf own_pd7 rfl) rfl rfl 109 rfl (hb hby own_d7_106) fun v2314 T2314 Lc2314 X2314 hQ2314 => ?_
      obtain ⟨rfl, Nq2314, Kq2314, fk2314⟩ := hQ2314
      have N2315 := Fr.app N2313 Nq2314
      have f2316 := f2298.keep Kq2314
      have f2317 := f2299.keep Kq2314 (ninS ne1817 nin0)
      have f2318 := f2300.keep Kq2314 (ninS ne1817 nin0)
      have f2319 := f2301.keep Kq2314 (ninS ne1817 nin0)
      have f2320 := f2302.keep Kq2314 (ninS ne1817 nin0)
      have f2321 := f2303.keep Kq2314 (ninS ne1818 nin0)
      have f2322 := f2304.keep Kq2314 (ninS ne1819 nin0)
      have f2323 := f2305.keep Kq2314 (ninS ne1820 nin0)
      have f2324 := f2306.keep Kq2314 (ninS ne1821 nin0)
      have f2325 := f2307.keep Kq2314 (ninS ne1822 nin0)
      have f2326 := f2308.keep Kq2314 (ninS ne1817 nin0)
      have f2327 := f2309.keep Kq2314
      have f2328 := f2310.keep Kq2314 (ninS ne1817 nin0)
      have z2330 := Nat.le_trans z2311 Kq2314.1
      have K2331 := K2312.trans Kq2314 (allS (Or.inr sz1824) all0)
      rcases fk2314 with fk2314 | fk2314
      ·
        show own_Go _ _ _ _ _ (State.setTop _ (mkF _ 109 #[.val (.ref o), .val (.int (1 : Int32)), .val (.int (2 : Int32)), .val (.int (2 : Int32)), .unset] []))
        refine own_iinc X2314 hx 112 rfl (hb hby own_d7_109) rfl #[.val (.ref o), .val (.int (1 : Int32)), .val (.int (2 : Int32)), .val (.int (3 : Int32)), .unset] rfl ?_
        refine own_goto X2314 hx 52 (hb hby own_d7_112) (by decide) rfl ?_
        refine own_iloadN X2314 hx 53 rfl (hb hby own_d7_52) rfl ?_
        refine own_aloadN X2314 hx 54 rfl (hb hby own_d7_53) rfl rfl ?_
        refine own_getF X2314 hx hZ (host := "") hown (Or.inl (own_hw hw 26 rfl)) Via.refl rfl f2326 57 rfl (hb hby own_d7_54) fun T2332 X2332 e2332 => ?_
        refine own_icmpYes X2332 hx 115 (hb hby own_d7_57) (by decide) (by decide) rfl ?_
        refine own_aloadN X2332 hx 116 rfl (hb hby own_d7_115) rfl rfl ?_
        refine own_getF X2332 hx hZ (host := "") hown (Or.inl (own_hw hw 19 rfl)) Via.refl e2332 f2328 119 rfl (hb hby own_d7_116) fun T2333 X2333 e2333 => ?_
        refine own_iconst X2333 hx 120 rfl (hb hby own_d7_119) (0 : Int32) rfl ?_
        refine own_ldI X2333 hx hZ e2333 fk2314 ⟨by decide, by decide⟩ (2 : Int32) rfl 121 rfl (hb hby own_d7_120) ?_
        refine own_istoreN X2333 hx 122 rfl (hb hby own_d7_121) #[.val (.ref o), .val (.int (1 : Int32)), .val (.int (2 : Int32)), .val (.int (2 : Int32)), .unset] rfl ?_
        refine own_new X2333 hx hZ hown (own_hw hw 53 rfl) (own_hw hw 54 rfl) (own_hw hw 55 rfl) e2333 125 rfl (hb hby own_d7_122) (by decide) (by decide) fun T2334 h2334 b2334 g2334 X2334 e2334 E2334 A2334 D2334 => ?_
        have ne2335 : o ≠ b2334 := Nat.ne_of_lt (Nat.lt_of_lt_of_le f2316.lt (Nat.le_of_eq g2334.symm))
        have ne2336 : a1 ≠ b2334 := Nat.ne_of_lt (Nat.lt_of_lt_of_le f2321.lt (Nat.le_of_eq g2334.symm))
        have ne2337 : a2 ≠ b2334 := Nat.ne_of_lt (Nat.lt_of_lt_of_le f2322.lt (Nat.le_of_eq g2334.symm))
        have ne2338 : a3 ≠ b2334 := Nat.ne_of_lt (Nat.lt_of_lt_of_le f2323.lt (Nat.le_of_eq g2334.symm))
        have ne2339 : a4 ≠ b2334 := Nat.ne_of_lt (Nat.lt_of_lt_of_le f2324.lt (Nat.le_of_eq g2334.symm))
        have ne2340 : a5 ≠ b2334 := Nat.ne_of_lt (Nat.lt_of_lt_of_le f2325.lt (Nat.le_of_eq g2334.symm))
        have ne2341 : b1816 ≠ b2334 := Nat.ne_of_lt (Nat.lt_of_lt_of_le f2327.lt (Nat.le_of_eq g2334.symm))
        have ge2342 : n0 ≤ b2334 := Nat.le_trans z2330 (Nat.le_of_eq g2334.symm)
        have sz2343 : h0.size ≤ b2334 := Nat.le_trans K2331.1 (Nat.le_of_eq g2334.symm)
        have f2344 := f2316.ext E2334
        have f2345 := f2317.ext E2334
        have f2346 := f2318.ext E2334
        have f2347 := f2319.ext E2334
        have f2348 := f2320.ext E2334
        have f2349 := f2321.ext E2334
        have f2350 := f2322.ext E2334
        have f2351 := f2323.ext E2334
        have f2352 := f2324.ext E2334
        have f2353 := f2325.ext E2334
        have f2354 := f2326.ext E2334
        have f2355 := f2327.ext E2334
        have f2356 := f2328.ext E2334
        have f2357 := fk2314.ext E2334
        have z2358 := Nat.le_trans z2330 E2334.1
        have K2359 := K2331.ext E2334
        have f2360 : Fld Z h2334 b2334 "com/example/prizepath/prizepath/Insertions$Insertion" "customer" "I" (.int (0 : Int32)) := D2334 (Or.inr (own_hw hw 66 rfl)) (ty := .int) (by decide)
        have f2361 : Fld Z h2334 b2334 "com/example/prizepath/prizepath/Insertions$Insertion" "route" "I" (.int (0 : Int32)) := D2334 (Or.inr (own_hw hw 68 rfl)) (ty := .int) (by decide)
        have f2362 : Fld Z h2334 b2334 "com/example/prizepath/prizepath/Insertions$Insertion" "place" "I" (.int (0 : Int32)) := D2334 (Or.inr (own_hw hw 70 rfl)) (ty := .int) (by decide)
        refine own_dup X2334 hx 126 rfl (hb hby own_d7_125) rfl ?_
        refine own_aloadN X2334 hx 127 rfl (hb hby own_d7_126) rfl rfl ?_
        refine own_getF X2334 hx hZ (host := "") hown (Or.inl (own_hw hw 10 rfl)) Via.refl e2334 f2345 130 rfl (hb hby own_d7_127) fun T2363 X2363 e2363 => ?_
        refine own_iloadN X2363 hx 131 rfl (hb hby own_d7_130) rfl ?_
        refine own_ldI X2363 hx hZ e2363 f2349 ⟨by decide, by decide⟩ c2 rfl 132 rfl (hb hby own_d7_131) ?_
        refine own_aloadN X2363 hx 133 rfl (hb hby own_d7_132) rfl rfl ?_
        refine own_getF X2363 hx hZ (host := "") hown (Or.inl (own_hw hw 12 rfl)) Via.refl e2363 f2346 136 rfl (hb hby own_d7_133) fun T2364 X2364 e2364 => ?_
        refine own_iloadN X2364 hx 137 rfl (hb hby own_d7_136) rfl ?_
        refine own_ldI X2364 hx hZ e2364 f2350 ⟨by decide, by decide⟩ r2 rfl 138 rfl (hb hby own_d7_137) ?_
        refine own_aloadN X2364 hx 139 rfl (hb hby own_d7_138) rfl rfl ?_
        refine own_getF X2364 hx hZ (host := "") hown (Or.inl (own_hw hw 14 rfl)) Via.refl e2364 f2347 142 rfl (hb hby own_d7_139) fun T2365 X2365 e2365 => ?_
        refine own_iloadN X2365 hx 143 rfl (hb hby own_d7_142) rfl ?_
        refine own_ldI X2365 hx hZ e2365 f2351 ⟨by decide, by decide⟩ p2 rfl 144 rfl (hb hby own_d7_143) ?_
        refine own_special X2365 hx hZ (y := (⟨"com/example/prizepath/prizepath/Insertions$Insertion", "<init>", "(III)V"⟩ : MethodName)) hown rfl (own_hw hw 56 rfl) (own_hw hw 57 rfl) (a := b2334) (by decide) rfl (rm_ins l Z a0 hw [] b2334 c2 r2 p2 h2334 n0 z2358 A2334 f2360 f2361 f2362 ge2342) (own_hw hw 58 rfl) (own_hw hw 55 rfl) (by decide) e2365 (by rw [hml]; rfl) [(.int c2), (.int r2), (.int p2)] 1 (by decide) (Nat.le_of_eq rfl) (by decide) (by decide) (lenOf own_pd8 rfl) rfl rfl 147 rfl (hb hby own_d7_144) fun v2366 T2366 Lc2366 X2366 hQ2366 => ?_
        obtain ⟨rfl, Nq2366, Kq2366, f2367, f2368, f2369, f2370⟩ := hQ2366
        have N2371 := Fr.app N2315 Nq2366
        have f2372 := f2344.keep Kq2366
        have f2373 := f2345.keep Kq2366 (ninS ne2335 nin0)
        have f2374 := f2346.keep Kq2366 (ninS ne2335 nin0)
        have f2375 := f2347.keep Kq2366 (ninS ne2335 nin0)
        have f2376 := f2348.keep Kq2366 (ninS ne2335 nin0)
        have f2377 := f2349.keep Kq2366 (ninS ne2336 nin0)
        have f2378 := f2350.keep Kq2366 (ninS ne2337 nin0)
        have f2379 := f2351.keep Kq2366 (ninS ne2338 nin0)
        have f2380 := f2352.keep Kq2366 (ninS ne2339 nin0)
        have f2381 := f2353.keep Kq2366 (ninS ne2340 nin0)
        have f2382 := f2354.keep Kq2366 (ninS ne2335 nin0)
        have f2383 := f2355.keep Kq2366
        have f2384 := f2356.keep Kq2366 (ninS ne2335 nin0)
        have f2385 := f2357.keep Kq2366 (ninS ne2341 nin0)
        have f2386 := A2334.keep Kq2366
        have z2390 := Nat.le_trans z2358 Kq2366.1
        have K2391 := K2359.trans Kq2366 (allS (Or.inr sz2343) all0)
        show own_Go _ _ _ _ _ (State.setTop _ (mkF _ 147 _ [(.ref b2334)]))
        refine own_astore X2366 hx 149 rfl (hb hby own_d7_147) rfl #[.val (.ref o), .val (.int (1 : Int32)), .val (.int (2 : Int32)), .val (.int (2 : Int32)), .val (.ref b2334)] rfl ?_
        refine own_aloadN X2366 hx 150 rfl (hb hby own_d7_149) rfl rfl ?_
        refine own_iloadN X2366 hx 151 rfl (hb hby own_d7_150) rfl ?_
        refine own_private X2366 hx hZ (y := (⟨"com/example/prizepath/prizepath/Insertions", "moveLastTo", "(I)V"⟩ : MethodName)) (z := (⟨"com/example/prizepath/prizepath/Insertions", "clear", "()V"⟩ : MethodName)) hown (own_hw hw 71 rfl) (own_hw hw 72 rfl) rfl (own_hw hw 24 rfl) (own_hw hw 73 rfl) (a := o) f2372 (by decide) (rm_mv32 l Z a0 hw [] o a1 a2 a3 a4 k1 k2 k3 k4 c0 c1 c2 r0 r1 r2 p0 p1 p2 d0 d1 d2 T2366.heap n0 z2390 f2372 f2373 f2374 f2375 f2376 f2377 f2378 f2379 f2380 f2382 g_o g_a1 g_a2 g_a3 g_a4 n_oa1 n_oa2 n_oa3 n_oa4 n_a1a2 n_a1a3 n_a1a4 n_a2a3 n_a2a4 n_a3a4) (own_hw hw 74 rfl) (own_hw hw 2 rfl) (by decide) rfl (by rw [hml]; rfl) [(.int (2 : Int32))] 0 (by decide) (Nat.le_of_eq rfl) (by decide) (by decide) (lenOf own_pd7 rfl) rfl rfl 154 rfl (hb hby own_d7_151) fun v2392 T2392 Lc2392 X2392 hQ2392 => ?_
        obtain ⟨rfl, Nq2392, Kq2392, f2393⟩ := hQ2392
        have N2394 := Fr.app N2371 Nq2392
        have f2395 := f2372.keep Kq2392
        have f2404 := f2381.keep Kq2392 (ninS (Ne.symm n_oa5) (ninS (Ne.symm n_a1a5) (ninS (Ne.symm n_a2a5) (ninS (Ne.symm n_a3a5) (ninS (Ne.symm n_a4a5) nin0)))))
        have f2406 := f2383.keep Kq2392
        have f2408 := f2385.keep Kq2392 (ninS (Ne.symm ne1817) (ninS (Ne.symm ne1818) (ninS (Ne.symm ne1819) (ninS (Ne.symm ne1820) (ninS (Ne.symm ne1821) nin0)))))
        have f2409 := f2367.keep Kq2392
        have f2410 := f2368.keep Kq2392 (ninS (Ne.symm ne2335) (ninS (Ne.symm ne2336) (ninS (Ne.symm ne2337) (ninS (Ne.symm ne2338) (ninS (Ne.symm ne2339) nin0)))))
        have f2411 := f2369.keep Kq2392 (ninS (Ne.symm ne2335) (ninS (Ne.symm ne2336) (ninS (Ne.symm ne2337) (ninS (Ne.symm ne2338) (ninS (Ne.symm ne2339) nin0)))))
        have f2412 := f2370.keep Kq2392 (ninS (Ne.symm ne2335) (ninS (Ne.symm ne2336) (ninS (Ne.symm ne2337) (ninS (Ne.symm ne2338) (ninS (Ne.symm ne2339) nin0)))))
        have z2413 := Nat.le_trans z2390 Kq2392.1
        have K2414 := K2391.trans Kq2392 (allS (Or.inl (List.mem_of_getElem? (i := 0) rfl)) (allS (Or.inl (List.mem_of_getElem? (i := 1) rfl)) (allS (Or.inl (List.mem_of_getElem? (i := 2) rfl)) (allS (Or.inl (List.mem_of_getElem? (i := 3) rfl)) (allS (Or.inl (List.mem_of_getElem? (i := 4) rfl)) all0)))))
        show own_Go _ _ _ _ _ (State.setTop _ (mkF _ 154 _ []))
        refine own_aload X2392 hx 156 rfl (hb hby own_d7_154) rfl rfl ?_
        refine own_ret X2392 (some (.ref b2334)) (fun h => by rw [Bd.returns] at h; cases h) Bd.notSynchronized (by decide) (by decide) ?_ (fun fs hr => own_retR X2392 hx Bd.returns rfl rfl (hb hby own_d7_156) hr)
        show Q_rm_take31 Z o a1 a2 a3 a4 a5 k1 k2 k3 k4 k5 c0 c1 c2 r0 r1 r2 p0 p1 p2 d0 d1 d2 h0 n0 _ T2392.heap _
        exact ⟨_, rfl, N2394, K2414, f2393⟩
      ·
        show own_Go _ _ _ _ _ (State.setTop _ (mkF _ 109 #[.val (.ref o), .val (.int (1 : Int32)), .val (.int (2 : Int32)), .val (.int (2 : Int32)), .unset] []))
        refine own_iinc X2314 hx 112 rfl (hb hby own_d7_109) rfl #[.val (.ref o), .val (.int (1 : Int32)), .val (.int (2 : Int32)), .val (.int (3 : Int32)), .unset] rfl ?_
        refine own_goto X2314 hx 52 (hb hby own_d7_112) (by decide) rfl ?_
        refine own_iloadN X2314 hx 53 rfl (hb hby own_d7_52) rfl ?_
        refine own_aloadN X2314 hx 54 rfl (hb hby own_d7_53) rfl rfl ?_
        refine own_getF X2314 hx hZ (host := "") hown (Or.inl (own_hw hw 26 rfl)) Via.refl rfl f2326 57 rfl (hb hby own_d7_54) fun T2415 X2415 e2415 => ?_
        refine own_icmpYes X2415 hx 115 (hb hby own_d7_57) (by decide) (by decide) rfl ?_
        refine own_aloadN X2415 hx 116 rfl (hb hby own_d7_115) rfl rfl ?_
        refine own_getF X2415 hx hZ (host := "") hown (Or.inl (own_hw hw 19 rfl)) Via.refl e2415 f2328 119 rfl (hb hby own_d7_116) fun T2416 X2416 e2416 => ?_
        refine own_iconst X2416 hx 120 rfl (hb hby own_d7_119) (0 : Int32) rfl ?_
        refine own_ldI X2416 hx hZ e2416 fk2314 ⟨by decide, by decide⟩ (0 : Int32) rfl 121 rfl (hb hby own_d7_120) ?_
        refine own_istoreN X2416 hx 122 rfl (hb hby own_d7_121) #[.val (.ref o), .val (.int (1 : Int32)), .val (.int (2 : Int32)), .val (.int (0 : Int32)), .unset] rfl ?_
        refine own_new X2416 hx hZ hown (own_hw hw 53 rfl) (own_hw hw 54 rfl) (own_hw hw 55 rfl) e2416 125 rfl (hb hby own_d7_122) (by decide) (by decide) fun T2417 h2417 b2417 g2417 X2417 e2417 E2417 A2417 D2417 => ?_
        have ne2418 : o ≠ b2417 := Nat.ne_of_lt (Nat.lt_of_lt_of_le f2316.lt (Nat.le_of_eq g2417.symm))
        have ne2419 : a1 ≠ b2417 := Nat.ne_of_lt (Nat.lt_of_lt_of_le f2321.lt (Nat.le_of_eq g2417.symm))
        have ne2420 : a2 ≠ b2417 := Nat.ne_of_lt (Nat.lt_of_lt_of_le f2322.lt (Nat.le_of_eq g2417.symm))
        have ne2421 : a3 ≠ b2417 := Nat.ne_of_lt (Nat.lt_of_lt_of_le f2323.lt (Nat.le_of_eq g2417.symm))
        have ne2422 : a4 ≠ b2417 := Nat.ne_of_lt (Nat.lt_of_lt_of_le f2324.lt (Nat.le_of_eq g2417.symm))
        have ne2423 : a5 ≠ b2417 := Nat.ne_of_lt (Nat.lt_of_lt_of_le f2325.lt (Nat.le_of_eq g2417.symm))
        have ne2424 : b1816 ≠ b2417 := Nat.ne_of_lt (Nat.lt_of_lt_of_le f2327.lt (Nat.le_of_eq g2417.symm))
        have ge2425 : n0 ≤ b2417 := Nat.le_trans z2330 (Nat.le_of_eq g2417.symm)
        have sz2426 : h0.size ≤ b2417 := Nat.le_trans K2331.1 (Nat.le_of_eq g2417.symm)
        have f2427 := f2316.ext E2417
        have f2428 := f2317.ext E2417
        have f2429 := f2318.ext E2417
        have f2430 := f2319.ext E2417
        have f2431 := f2320.ext E2417
        have f2432 := f2321.ext E2417
        have f2433 := f2322.ext E2417
        have f2434 := f2323.ext E2417
        have f2435 := f2324.ext E2417
        have f2436 := f2325.ext E2417
        have f2437 := f2326.ext E2417
        have f2438 := f2327.ext E2417
        have f2439 := f2328.ext E2417
        have f2440 := fk2314.ext E2417
        have z2441 := Nat.le_trans z2330 E2417.1
        have K2442 := K2331.ext E2417
        have f2443 : Fld Z h2417 b2417 "com/example/prizepath/prizepath/Insertions$Insertion" "customer" "I" (.int (0 : Int32)) := D2417 (Or.inr (own_hw hw 66 rfl)) (ty := .int) (by decide)
        have f2444 : Fld Z h2417 b2417 "com/example/prizepath/prizepath/Insertions$Insertion" "route" "I" (.int (0 : Int32)) := D2417 (Or.inr (own_hw hw 68 rfl)) (ty := .int) (by decide)
        have f2445 : Fld Z h2417 b2417 "com/example/prizepath/prizepath/Insertions$Insertion" "place" "I" (.int (0 : Int32)) := D2417 (Or.inr (own_hw hw 70 rfl)) (ty := .int) (by decide)
        refine own_dup X2417 hx 126 rfl (hb hby own_d7_125) rfl ?_
        refine own_aloadN X2417 hx 127 rfl (hb hby own_d7_126) rfl rfl ?_
        refine own_getF X2417 hx hZ (host := "") hown (Or.inl (own_hw hw 10 rfl)) Via.refl e2417 f2428 130 rfl (hb hby own_d7_127) fun T2446 X2446 e2446 => ?_
        refine own_iloadN X2446 hx 131 rfl (hb hby own_d7_130) rfl ?_
        refine own_ldI X2446 hx hZ e2446 f2432 ⟨by decide, by decide⟩ c0 rfl 132 rfl (hb hby own_d7_131) ?_
        refine own_aloadN X2446 hx 133 rfl (hb hby own_d7_132) rfl rfl ?_
        refine own_getF X2446 hx hZ (host := "") hown (Or.inl (own_hw hw 12 rfl)) Via.refl e2446 f2429 136 rfl (hb hby own_d7_133) fun T2447 X2447 e2447 => ?_
        refine own_iloadN X2447 hx 137 rfl (hb hby own_d7_136) rfl ?_
        refine own_ldI X2447 hx hZ e2447 f2433 ⟨by decide, by decide⟩ r0 rfl 138 rfl (hb hby own_d7_137) ?_
        refine own_aloadN X2447 hx 139 rfl (hb hby own_d7_138) rfl rfl ?_
        refine own_getF X2447 hx hZ (host := "") hown (Or.inl (own_hw hw 14 rfl)) Via.refl e2447 f2430 142 rfl (hb hby own_d7_139) fun T2448 X2448 e2448 => ?_
        refine own_iloadN X2448 hx 143 rfl (hb hby own_d7_142) rfl ?_
        refine own_ldI X2448 hx hZ e2448 f2434 ⟨by decide, by decide⟩ p0 rfl 144 rfl (hb hby own_d7_143) ?_
        refine own_special X2448 hx hZ (y := (⟨"com/example/prizepath/prizepath/Insertions$Insertion", "<init>", "(III)V"⟩ : MethodName)) hown rfl (own_hw hw 56 rfl) (own_hw hw 57 rfl) (a := b2417) (by decide) rfl (rm_ins l Z a0 hw [] b2417 c0 r0 p0 h2417 n0 z2441 A2417 f2443 f2444 f2445 ge2425) (own_hw hw 58 rfl) (own_hw hw 55 rfl) (by decide) e2448 (by rw [hml]; rfl) [(.int c0), (.int r0), (.int p0)] 1 (by decide) (Nat.le_of_eq rfl) (by decide) (by decide) (lenOf own_pd8 rfl) rfl rfl 147 rfl (hb hby own_d7_144) fun v2449 T2449 Lc2449 X2449 hQ2449 => ?_
        obtain ⟨rfl, Nq2449, Kq2449, f2450, f2451, f2452, f2453⟩ := hQ2449
        have N2454 := Fr.app N2315 Nq2449
        have f2455 := f2427.keep Kq2449
        have f2456 := f2428.keep Kq2449 (ninS ne2418 nin0)
        have f2457 := f2429.keep Kq2449 (ninS ne2418 nin0)
        have f2458 := f2430.keep Kq2449 (ninS ne2418 nin0)
        have f2459 := f2431.keep Kq2449 (ninS ne2418 nin0)
        have f2460 := f2432.keep Kq2449 (ninS ne2419 nin0)
        have f2461 := f2433.keep Kq2449 (ninS ne2420 nin0)
        have f2462 := f2434.keep Kq2449 (ninS ne2421 nin0)
        have f2463 := f2435.keep Kq2449 (ninS ne2422 nin0)
        have f2464 := f2436.keep Kq2449 (ninS ne2423 nin0)
        have f2465 := f2437.keep Kq2449 (ninS ne2418 nin0)
        have f2466 := f2438.keep Kq2449
        have f2467 := f2439.keep Kq2449 (ninS ne2418 nin0)
        have f2468 := f2440.keep Kq2449 (ninS ne2424 nin0)
        have f2469 := A2417.keep Kq2449
        have z2473 := Nat.le_trans z2441 Kq2449.1
        have K2474 := K2442.trans Kq2449 (allS (Or.inr sz2426) all0)
        show own_Go _ _ _ _ _ (State.setTop _ (mkF _ 147 _ [(.ref b2417)]))
        refine own_astore X2449 hx 149 rfl (hb hby own_d7_147) rfl #[.val (.ref o), .val (.int (1 : Int32)), .val (.int (2 : Int32)), .val (.int (0 : Int32)), .val (.ref b2417)] rfl ?_
        refine own_aloadN X2449 hx 150 rfl (hb hby own_d7_149) rfl rfl ?_
        refine own_iloadN X2449 hx 151 rfl (hb hby own_d7_150) rfl ?_
        refine own_private X2449 hx hZ (y := (⟨"com/example/prizepath/prizepath/Insertions", "moveLastTo", "(I)V"⟩ : MethodName)) (z := (⟨"com/example/prizepath/prizepath/Insertions", "clear", "()V"⟩ : MethodName)) hown (own_hw hw 71 rfl) (own_hw hw 72 rfl) rfl (own_hw hw 24 rfl) (own_hw hw 73 rfl) (a := o) f2455 (by decide) (rm_mv30 l Z a0 hw [] o a1 a2 a3 a4 k1 k2 k3 k4 c0 c1 c2 r0 r1 r2 p0 p1 p2 d0 d1 d2 T2449.heap n0 z2473 f2455 f2456 f2457 f2458 f2459 f2460 f2461 f2462 f2463 f2465 g_o g_a1 g_a2 g_a3 g_a4 n_oa1 n_oa2 n_oa3 n_oa4 n_a1a2 n_a1a3 n_a1a4 n_a2a3 n_a2a4 n_a3a4) (own_hw hw 74 rfl) (own_hw hw 2 rfl) (by decide) rfl (by rw [hml]; rfl) [(.int (0 : Int32))] 0 (by decide) (Nat.le_of_eq rfl) (by decide) (by decide) (lenOf own_pd7 rfl) rfl rfl 154 rfl (hb hby own_d7_151) fun v2475 T2475 Lc2475 X2475 hQ2475 => ?_
        obtain ⟨rfl, Nq2475, Kq2475, f2476⟩ := hQ2475
        have N2477 := Fr.app N2454 Nq2475
        have f2478 := f2455.keep Kq2475
        have f2487 := f2464.keep Kq2475 (ninS (Ne.symm n_oa5) (ninS (Ne.symm n_a1a5) (ninS (Ne.symm n_a2a5) (ninS (Ne.symm n_a3a5) (ninS (Ne.symm n_a4a5) nin0)))))
        have f2489 := f2466.keep Kq2475
        have f2491 := f2468.keep Kq2475 (ninS (Ne.symm ne1817) (ninS (Ne.symm ne1818) (ninS (Ne.symm ne1819) (ninS (Ne.symm ne1820) (ninS (Ne.symm ne1821) nin0)))))
        have f2492 := f2450.keep Kq2475
        have f2493 := f2451.keep Kq2475 (ninS (Ne.symm ne2418) (ninS (Ne.symm ne2419) (ninS (Ne.symm ne2420) (ninS (Ne.symm ne2421) (ninS (Ne.symm ne2422) nin0)))))
        have f2494 := f2452.keep Kq2475 (ninS (Ne.symm ne2418) (ninS (Ne.symm ne2419) (ninS (Ne.symm ne2420) (ninS (Ne.symm ne2421) (ninS (Ne.symm ne2422) nin0)))))
        have f2495 := f2453.keep Kq2475 (ninS (Ne.symm ne2418) (ninS (Ne.symm ne2419) (ninS (Ne.symm ne2420) (ninS (Ne.symm ne2421) (ninS (Ne.symm ne2422) nin0)))))
        have z2496 := Nat.le_trans z2473 Kq2475.1
        have K2497 := K2474.trans Kq2475 (allS (Or.inl (List.mem_of_getElem? (i := 0) rfl)) (allS (Or.inl (List.mem_of_getElem? (i := 1) rfl)) (allS (Or.inl (List.mem_of_getElem? (i := 2) rfl)) (allS (Or.inl (List.mem_of_getElem? (i := 3) rfl)) (allS (Or.inl (List.mem_of_getElem? (i := 4) rfl)) all0)))))
        show own_Go _ _ _ _ _ (State.setTop _ (mkF _ 154 _ []))
        refine own_aload X2475 hx 156 rfl (hb hby own_d7_154) rfl rfl ?_
        refine own_ret X2475 (some (.ref b2417)) (fun h => by rw [Bd.returns] at h; cases h) Bd.notSynchronized (by decide) (by decide) ?_ (fun fs hr => own_retR X2475 hx Bd.returns rfl rfl (hb hby own_d7_156) hr)
        show Q_rm_take31 Z o a1 a2 a3 a4 a5 k1 k2 k3 k4 k5 c0 c1 c2 r0 r1 r2 p0 p1 p2 d0 d1 d2 h0 n0 _ T2475.heap _
        exact ⟨_, rfl, N2477, K2497, f2476⟩
theorem own_ef_rm_take32 (m : MethodId) (o : Addr) : entryFrame m #[(.ref o), (.int (2 : Int32))] 5 = mkF m 0 #[.val (.ref o), .val (.int (2 : Int32)), .unset, .unset, .unset] [] := by first | (simp [entryFrame, mkF, argsToLocals, Value.category]; done) | rfl
def Q_rm_take32 (Z : State) (o : Addr) (a1 : Addr) (a2 : Addr) (a3 : Addr) (a4 : Addr) (a5 : Addr) (k1 : ClassId) (k2 : ClassId) (k3 : ClassId) (k4 : ClassId) (k5 : ClassId) (c0 : Int32) (c1 : Int32) (c2 : Int32) (r0 : Int32) (r1 : Int32) (r2 : Int32) (p0 : Int32) (p1 : Int32) (p2 : Int32) (d0 : UInt64) (d1 : UInt64) (d2 : UInt64) (h0 : Heap) (n0 : Nat) (v : Option Value) (h : Heap) (L : List Loc) : Prop := ∃ b : Addr, v = some (.ref b) ∧ Fr n0 L ∧ Keep h0 h [o, a1, a2, a3, a4, a5] ∧ Fld Z h o "com/example/prizepath/prizepath/Insertions" "size" "I" (.int (2 : Int32))
set_option maxRecDepth 65536 in
set_option maxHeartbeats 40000000 in
theorem rm_take32 (l : Launch) (Z : State) (a0 : Array Value) (hw : ∀ d ∈ tables_1, d.before a0 Z = true) (ws : List Jvm.Cond) (o : Addr) (a1 : Addr) (a2 : Addr) (a3 : Addr) (a4 : Addr) (a5 : Addr) (k1 : ClassId) (k2 : ClassId) (k3 : ClassId) (k4 : ClassId) (k5 : ClassId) (c0 : Int32) (c1 : Int32) (c2 : Int32) (r0 : Int32) (r1 : Int32) (r2 : Int32) (p0 : Int32) (p1 : Int32) (p2 : Int32) (d0 : UInt64) (d1 : UInt64) (d2 : UInt64) (h0 : Heap) (n0 : Nat) (Z0 : n0 ≤ h0.size) (E0 : Exa Z h0 o "com/example/prizepath/prizepath/Insertions") (F1 : Fld Z h0 o "com/example/prizepath/prizepath/Insertions" "customers" "[I" (.ref a1)) (F2 : Fld Z h0 o "com/example/prizepath/prizepath/Insertions" "routes" "[I" (.ref a2)) (F3 : Fld Z h0 o "com/example/prizepath/prizepath/Insertions" "places" "[I" (.ref a3)) (F4 : Fld Z h0 o "com/example/prizepath/prizepath/Insertions" "ranks" "[D" (.ref a4)) (F5 : Fld Z h0 o "com/example/prizepath/prizepath/Insertions" "kept" "[I" (.ref a5)) (A1 : Arv Z h0 a1 k1 .int (256 : Int32) [(.int c0), (.int c1), (.int c2)] (.int (0 : Int32))) (A2 : Arv Z h0 a2 k2 .int (256 : Int32) [(.int r0), (.int r1), (.int r2)] (.int (0 : Int32))) (A3 : Arv Z h0 a3 k3 .int (256 : Int32) [(.int p0), (.int p1), (.int p2)] (.int (0 : Int32))) (A4 : Arv Z h0 a4 k4 .double (256 : Int32) [(.double d0), (.double d1), (.double d2)] (.double (0 : UInt64))) (A5 : Arv Z h0 a5 k5 .int (1 : Int32) [(.int (0 : Int32))] (.int (0 : Int32))) (FZ : Fld Z h0 o "com/example/prizepath/prizepath/Insertions" "size" "I" (.int (3 : Int32))) (g_o : n0 ≤ o) (g_a1 : n0 ≤ a1) (g_a2 : n0 ≤ a2) (g_a3 : n0 ≤ a3) (g_a4 : n0 ≤ a4) (g_a5 : n0 ≤ a5) (n_oa1 : o ≠ a1) (n_oa2 : o ≠ a2) (n_oa3 : o ≠ a3) (n_oa4 : o ≠ a4) (n_a1a2 : a1 ≠ a2) (n_a1a3 : a1 ≠ a3) (n_a1a4 : a1 ≠ a4) (n_a2a3 : a2 ≠ a3) (n_a2a4 : a2 ≠ a4) (n_a3a4 : a3 ≠ a4) (n_oa5 : o ≠ a5) (n_a1a5 : a1 ≠ a5) (n_a2a5 : a2 ≠ a5) (n_a3a5 : a3 ≠ a5) (n_a4a5 : a4 ≠ a5) (nd0 : cmpValue (FP.dcmp d0 d0) .l = 0) (nd1 : cmpValue (FP.dcmp d1 d1) .l = 0) (nd2 : cmpValue (FP.dcmp d2 d2) .l = 0) :
    MetFree l (⟨"com/example/prizepath/prizepath/Insertions", "take", "(I)Lcom/example/prizepath/prizepath/Insertions$Insertion;"⟩ : MethodName) (head1 (Jvm.Cond.code (⟨"com/example/prizepath/prizepath/Insertions", "take", "(I)Lcom/example/prizepath/prizepath/Insertions$Insertion;"⟩ : MethodName) prog_15_method_6_code 5 (some (.object "com/example/prizepath/prizepath/Insertions$Insertion")) :: ws) ({ frames := 5, cells := 2, slots := 6, locals := 100 } : Room)) (fun aa U => aa = #[(.ref o), (.int (2 : Int32))] ∧ Z.Warmed39 U.vm ∧ U.heap = h0) (fun _ _ _ _ _ => True) (fun _ U ou U' => ∃ v L, ou = .returned v ∧ Q_rm_take32 Z o a1 a2 a3 a4 a5 k1 k2 k3 k4 k5 c0 c1 c2 r0 r1 r2 p0 p1 p2 d0 d1 d2 h0 n0 v U'.heap L ∧ FrameEnd U ou U' L ({ frames := 5, cells := 2, slots := 6, locals := 100 } : Room).cells ({ frames := 5, cells := 2, slots := 6, locals := 100 } : Room).slots) := by
  refine MetFree.of_bodySF (plainFor_of_name own_pn2) hisR ?_
  intro p e s m args below meth c s₁ Bd hml0 hP hK
  obtain ⟨rfl, hZ, hh⟩ := hP
  have hx := Bd.exec
  have hby := Bd.bytes
  have hml : c.maxLocals = 5 := hml0
  have hown : s.vm.findClass "com/example/prizepath/prizepath/Insertions" = some m.cls := findClass_of_methodNamed Bd.named
  have hnm := (name_of_methodNamed Bd.named Bd.method).1
  have X0 : Stand p l e ({ frames := 5, cells := 2, slots := 6, locals := 100 } : Room) s m #[(.ref o), (.int (2 : Int32))] below meth c s₁ [] 0 0 := Stand.of_body Bd
  have e0 : s₁.heap = h0 := by rw [← hh, Bd.state]; rfl
  have N0 := Fr.nil n0
  have K0 := Keep.refl h0 [o, a1, a2, a3, a4, a5]
  show own_Go p e below (fun o u L => FrameEnd s o u L ({ frames := 5, cells := 2, slots := 6, locals := 100 } : Room).cells ({ frames := 5, cells := 2, slots := 6, locals := 100 } : Room).slots) (Q_rm_take32 Z o a1 a2 a3 a4 a5 k1 k2 k3 k4 k5 c0 c1 c2 r0 r1 r2 p0 p1 p2 d0 d1 d2 h0 n0) (s₁.setTop (entryFrame m #[(.ref o), (.int (2 : Int32))] 5))
  rw [own_ef_rm_take32 m o]
  show own_Go _ _ _ _ _ (State.setTop _ (mkF _ 0 #[.val (.ref o), .val (.int (2 : Int32)), .unset, .unset, .unset] []))
  refine own_iloadN X0 hx 1 rfl (hb hby own_d7_0) rfl ?_
  refine own_ifNo X0 hx 4 rfl (hb hby own_d7_1) (by decide) ?_
  refine own_iloadN X0 hx 5 rfl (hb hby own_d7_4) rfl ?_
  refine own_aloadN X0 hx 6 rfl (hb hby own_d7_5) rfl rfl ?_
  refine own_getF X0 hx hZ (host := "") hown (Or.inl (own_hw hw 26 rfl)) Via.refl e0 FZ 9 rfl (hb hby own_d7_6) fun T2498 X2498 e2498 => ?_
  refine own_icmpYes X2498 hx 30 (hb hby own_d7_9) (by decide) (by decide) rfl ?_
  refine own_aloadN X2498 hx 31 rfl (hb hby own_d7_30) rfl rfl ?_
  refine own_getF X2498 hx hZ (host := "") hown (Or.inl (own_hw hw 19 rfl)) Via.refl e2498 F5 34 rfl (hb hby own_d7_31) fun T2499 X2499 e2499 => ?_
  refine own_len X2499 hx hZ e2499 A5 35 rfl (hb hby own_d7_34) ?_
  refine own_iloadN X2499 hx 36 rfl (hb hby own_d7_35) rfl ?_
  refine own_icmpNo X2499 hx 39 rfl (hb hby own_d7_36) (by decide) ?_
  refine own_aloadN X2499 hx 40 rfl (hb hby own_d7_39) rfl rfl ?_
  refine own_iloadN X2499 hx 41 rfl (hb hby own_d7_40) rfl ?_
  refine own_iconst X2499 hx 42 rfl (hb hby own_d7_41) (1 : Int32) rfl ?_
  refine own_iadd X2499 hx 43 rfl (hb hby own_d7_42) (3 : Int32) rfl ?_
  refine own_newA X2499 hx hZ (own_hw hw 9 rfl) e2499 45 rfl (hb hby own_d7_43) (by decide) 3 (by decide) (by decide) (by decide) (by decide) "[I" (by decide) fun T2500 h2500 k2500 b2500 g2500 X2500 e2500 E2500 A2500 C2500 => ?_
  have ne2501 : o ≠ b2500 := Nat.ne_of_lt (Nat.lt_of_lt_of_le E0.lt (Nat.le_of_eq g2500.symm))
  have ne2502 : a1 ≠ b2500 := Nat.ne_of_lt (Nat.lt_of_lt_of_le A1.lt (Nat.le_of_eq g2500.symm))
  have ne2503 : a2 ≠ b2500 := Nat.ne_of_lt (Nat.lt_of_lt_of_le A2.lt (Nat.le_of_eq g2500.symm))
  have ne2504 : a3 ≠ b2500 := Nat.ne_of_lt (Nat.lt_of_lt_of_le A3.lt (Nat.le_of_eq g2500.symm))
  have ne2505 : a4 ≠ b2500 := Nat.ne_of_lt (Nat.lt_of_lt_of_le A4.lt (Nat.le_of_eq g2500.symm))
  have ne2506 : a5 ≠ b2500 := Nat.ne_of_lt (Nat.lt_of_lt_of_le A5.lt (Nat.le_of_eq g2500.symm))
  have ge2507 : n0 ≤ b2500 := Nat.le_trans Z0 (Nat.le_of_eq g2500.symm)
  have sz2508 : h0.size ≤ b2500 := Nat.le_trans K0.1 (Nat.le_of_eq g2500.symm)
  have f2509 := E0.ext E2500
  have f2510 := F1.ext E2500
  have f2511 := F2.ext E2500
  have f2512 := F3.ext E2500
  have f2513 := F4.ext E2500
  have f2514 := F5.ext E2500
  have f2515 := A1.ext E2500
  have f2516 := A2.ext E2500
  have f2517 := A3.ext E2500
  have f2518 := A4.ext E2500
  have f2519 := A5.ext E2500
  have f2520 := FZ.ext E2500
  have z2521 := Nat.le_trans Z0 E2500.1
  have K2522 := K0.ext E2500
  have f2523 : Arv Z h2500 b2500 k2500 .int (3 : Int32) [(.int (0 : Int32)), (.int (0 : Int32)), (.int (0 : Int32))] (.int (0 : Int32)) := (Arv.new A2500 (by decide)).pad (pad_rep [] (.int (0 : Int32)) 3)
  refine own_putF X2500 hx hZ (host := "") hown (Or.inl (own_hw hw 19 rfl)) Via.refl e2500 f2514 f2509 (Or.inl (own_hw hw 20 rfl)) (own_hw hw 1 rfl) (ty := (.array .int)) (by decide) rfl rfl 48 rfl (hb hby own_d7_45) fun T2524 h2524 X2524 e2524 W2524 => ?_
  have f2525 := f2509.wr W2524
  have f2526 := f2510.other W2524 (Or.inr (slot_ne (Or.inl (own_hw hw 11 rfl)) (Or.inl (own_hw hw 20 rfl)) (by decide) (t := (.array .int)) (t' := (.array .int)) (by decide) (by decide)))
  have f2527 := f2511.other W2524 (Or.inr (slot_ne (Or.inl (own_hw hw 13 rfl)) (Or.inl (own_hw hw 20 rfl)) (by decide) (t := (.array .int)) (t' := (.array .int)) (by decide) (by decide)))
  have f2528 := f2512.other W2524 (Or.inr (slot_ne (Or.inl (own_hw hw 15 rfl)) (Or.inl (own_hw hw 20 rfl)) (by decide) (t := (.array .int)) (t' := (.array .int)) (by decide) (by decide)))
  have f2529 := f2513.other W2524 (Or.inr (slot_ne (Or.inl (own_hw hw 18 rfl)) (Or.inl (own_hw hw 20 rfl)) (by decide) (t := (.array .double)) (t' := (.array .int)) (by decide) (by decide)))
  have f2530 := f2515.other W2524 (Ne.symm n_oa1)
  have f2531 := f2516.other W2524 (Ne.symm n_oa2)
  have f2532 := f2517.other W2524 (Ne.symm n_oa3)
  have f2533 := f2518.other W2524 (Ne.symm n_oa4)
  have f2534 := f2519.other W2524 (Ne.symm n_oa5)
  have f2535 := f2520.other W2524 (Or.inr (slot_ne (Or.inl (own_hw hw 27 rfl)) (Or.inl (own_hw hw 20 rfl)) (by decide) (t := .int) (t' := (.array .int)) (by decide) (by decide)))
  have f2536 := C2500.wr W2524
  have f2537 := f2523.other W2524 (Ne.symm ne2501)
  have z2538 := Nat.le_trans z2521 (Keep.of_wr W2524).1
  have K2539 := K2522.wr W2524 (Or.inl (List.mem_of_getElem? (i := 0) rfl))
  have f2540 := f2514.same W2524
  have N2541 := Fr.snoc X2524 N0 g_o
  refine own_iconst X2524 hx 49 rfl (hb hby own_d7_48) (0 : Int32) rfl ?_
  refine own_istoreN X2524 hx 50 rfl (hb hby own_d7_49) #[.val (.ref o), .val (.int (2 : Int32)), .val (.int (0 : Int32)), .unset, .unset] rfl ?_
  refine own_iconst X2524 hx 51 rfl (hb hby own_d7_50) (0 : Int32) rfl ?_
  refine own_istoreN X2524 hx 52 rfl (hb hby own_d7_51) #[.val (.ref o), .val (.int (2 : Int32)), .val (.int (0 : Int32)), .val (.int (0 : Int32)), .unset] rfl ?_
  refine own_iloadN X2524 hx 53 rfl (hb hby own_d7_52) rfl ?_
  refine own_aloadN X2524 hx 54 rfl (hb hby own_d7_53) rfl rfl ?_
  refine own_getF X2524 hx hZ (host := "") hown (Or.inl (own_hw hw 26 rfl)) Via.refl e2524 f2535 57 rfl (hb hby own_d7_54) fun T2542 X2542 e2542 => ?_
  refine own_icmpNo X2542 hx 60 rfl (hb hby own_d7_57) (by decide) ?_
  refine own_iloadN X2542 hx 61 rfl (hb hby own_d7_60) rfl ?_
  refine own_iloadN X2542 hx 62 rfl (hb hby own_d7_61) rfl ?_
  refine own_icmpNo X2542 hx 65 rfl (hb hby own_d7_62) (by decide) ?_
  refine own_aloadN X2542 hx 66 rfl (hb hby own_d7_65) rfl rfl ?_
  refine own_getF X2542 hx hZ (host := "") hown (Or.inl (own_hw hw 19 rfl)) Via.refl e2542 f2540 69 rfl (hb hby own_d7_66) fun T2543 X2543 e2543 => ?_
  refine own_iloadN X2543 hx 70 rfl (hb hby own_d7_69) rfl ?_
  refine own_iloadN X2543 hx 71 rfl (hb hby own_d7_70) rfl ?_
  refine own_stI X2543 hx hZ e2543 f2537 ⟨by decide, by decide⟩ 0 rfl (Nat.le_of_ble_eq_true rfl) [(.int (0 : Int32)), (.int (0 : Int32)), (.int (0 : Int32))] rfl 72 rfl (hb hby own_d7_71) fun T2544 h2544 X2544 e2544 W2544 f2545 => ?_
  have f2546 := f2525.wr W2544
  have f2547 := f2526.other W2544 (Or.inl ne2501)
  have f2548 := f2527.other W2544 (Or.inl ne2501)
  have f2549 := f2528.other W2544 (Or.inl ne2501)
  have f2550 := f2529.other W2544 (Or.inl ne2501)
  have f2551 := f2530.other W2544 ne2502
  have f2552 := f2531.other W2544 ne2503
  have f2553 := f2532.other W2544 ne2504
  have f2554 := f2533.other W2544 ne2505
  have f2555 := f2534.other W2544 ne2506
  have f2556 := f2535.other W2544 (Or.inl ne2501)
  have f2557 := f2536.wr W2544
  have f2558 := f2540.other W2544 (Or.inl ne2501)
  have z2559 := Nat.le_trans z2538 (Keep.of_wr W2544).1
  have K2560 := K2539.wr W2544 (Or.inr sz2508)
  have N2561 := Fr.snoc X2544 N2541 ge2507
  refine own_aloadN X2544 hx 73 rfl (hb hby own_d7_72) rfl rfl ?_
  refine own_iloadN X2544 hx 74 rfl (hb hby own_d7_73) rfl ?_
  refine own_private X2544 hx hZ (y := (⟨"com/example/prizepath/prizepath/Insertions", "siftUp", "(I)V"⟩ : MethodName)) (z := (⟨"com/example/prizepath/prizepath/Insertions", "clear", "()V"⟩ : MethodName)) hown (own_hw hw 49 rfl) (own_hw hw 50 rfl) rfl (own_hw hw 24 rfl) (own_hw hw 51 rfl) (a := o) f2546 (by decide) (rm_up0 l Z a0 hw [] o h2544 n0 z2559 ) (own_hw hw 52 rfl) (own_hw hw 2 rfl) (by decide) e2544 (by rw [hml]; rfl) [(.int (0 : Int32))] 0 (by decide) (Nat.le_of_eq rfl) (by decide) (by decide) (lenOf own_pd7 rfl) rfl rfl 77 rfl (hb hby own_d7_74) fun v2562 T2562 Lc2562 X2562 hQ2562 => ?_
  obtain ⟨rfl, Nq2562, e2562⟩ := hQ2562
  have N2563 := Fr.app N2561 Nq2562
  show own_Go _ _ _ _ _ (State.setTop _ (mkF _ 77 _ []))
  refine own_iinc X2562 hx 80 rfl (hb hby own_d7_77) rfl #[.val (.ref o), .val (.int (2 : Int32)), .val (.int (1 : Int32)), .val (.int (0 : Int32)), .unset] rfl ?_
  refine own_goto X2562 hx 109 (hb hby own_d7_80) (by decide) rfl ?_
  refine own_iinc X2562 hx 112 rfl (hb hby own_d7_109) rfl #[.val (.ref o), .val (.int (2 : Int32)), .val (.int (1 : Int32)), .val (.int (1 : Int32)), .unset] rfl ?_
  refine own_goto X2562 hx 52 (hb hby own_d7_112) (by decide) rfl ?_
  refine own_iloadN X2562 hx 53 rfl (hb hby own_d7_52) rfl ?_
  refine own_aloadN X2562 hx 54 rfl (hb hby own_d7_53) rfl rfl ?_
  refine own_getF X2562 hx hZ (host := "") hown (Or.inl (own_hw hw 26 rfl)) Via.refl e2562 f2556 57 rfl (hb hby own_d7_54) fun T2564 X2564 e2564 => ?_
  refine own_icmpNo X2564 hx 60 rfl (hb hby own_d7_57) (by decide) ?_
  refine own_iloadN X2564 hx 61 rfl (hb hby own_d7_60) rfl ?_
  refine own_iloadN X2564 hx 62 rfl (hb hby own_d7_61) rfl ?_
  refine own_icmpNo X2564 hx 65 rfl (hb hby own_d7_62) (by decide) ?_
  refine own_aloadN X2564 hx 66 rfl (hb hby own_d7_65) rfl rfl ?_
  refine own_getF X2564 hx hZ (host := "") hown (Or.inl (own_hw hw 19 rfl)) Via.refl e2564 f2558 69 rfl (hb hby own_d7_66) fun T2565 X2565 e2565 => ?_
  refine own_iloadN X2565 hx 70 rfl (hb hby own_d7_69) rfl ?_
  refine own_iloadN X2565 hx 71 rfl (hb hby own_d7_70) rfl ?_
  refine own_stI X2565 hx hZ e2565 f2545 ⟨by decide, by decide⟩ 1 rfl (Nat.le_of_ble_eq_true rfl) [(.int (0 : Int32)), (.int (1 : Int32)), (.int (0 : Int32))] rfl 72 rfl (hb hby own_d7_71) fun T2566 h2566 X2566 e2566 W2566 f2567 => ?_
  have f2568 := f2546.wr W2566
  have f2569 := f2547.other W2566 (Or.inl ne2501)
  have f2570 := f2548.other W2566 (Or.inl ne2501)
  have f2571 := f2549.other W2566 (Or.inl ne2501)
  have f2572 := f2550.other W2566 (Or.inl ne2501)
  have f2573 := f2551.other W2566 ne2502
  have f2574 := f2552.other W2566 ne2503
  have f2575 := f2553.other W2566 ne2504
  have f2576 := f2554.other W2566 ne2505
  have f2577 := f2555.other W2566 ne2506
  have f2578 := f2556.other W2566 (Or.inl ne2501)
  have f2579 := f2557.wr W2566
  have f2580 := f2558.other W2566 (Or.inl ne2501)
  have z2581 := Nat.le_trans z2559 (Keep.of_wr W2566).1
  have K2582 := K2560.wr W2566 (Or.inr sz2508)
  have N2583 := Fr.snoc X2566 N2563 ge2507
  refine own_aloadN X2566 hx 73 rfl (hb hby own_d7_72) rfl rfl ?_
  refine own_iloadN X2566 hx 74 rfl (hb hby own_d7_73) rfl ?_
  refine own_private X2566 hx hZ (y := (⟨"com/example/prizepath/prizepath/Insertions", "siftUp", "(I)V"⟩ : MethodName)) (z := (⟨"com/example/prizepath/prizepath/Insertions", "clear", "()V"⟩ : MethodName)) hown (own_hw hw 49 rfl) (own_hw hw 50 rfl) rfl (own_hw hw 24 rfl) (own_hw hw 51 rfl) (a := o) f2568 (by decide) (rm_up13 l Z a0 hw [] o a1 a2 a3 a4 b2500 k1 k2 k3 k4 k2500 c0 c1 c2 r0 r1 r2 p0 p1 p2 d0 d1 d2 h2566 n0 z2581 f2568 f2569 f2570 f2571 f2572 f2580 f2573 f2574 f2575 f2576 f2567 ge2507 ne2502 ne2503 ne2504 ne2505 ne2501 nd0 nd1 nd2) (own_hw hw 52 rfl) (own_hw hw 2 rfl) (by decide) e2566 (by rw [hml]; rfl) [(.int (1 : Int32))] 0 (by decide) (Nat.le_of_eq rfl) (by decide) (by decide) (lenOf own_pd7 rfl) rfl rfl 77 rfl (hb hby own_d7_74) fun v2584 T2584 Lc2584 X2584 hQ2584 => ?_
  obtain ⟨rfl, Nq2584, Kq2584, fk2584⟩ := hQ2584
  have N2585 := Fr.app N2583 Nq2584
  have f2586 := f2568.keep Kq2584
  have f2587 := f2569.keep Kq2584 (ninS ne2501 nin0)
  have f2588 := f2570.keep Kq2584 (ninS ne2501 nin0)
  have f2589 := f2571.keep Kq2584 (ninS ne2501 nin0)
  have f2590 := f2572.keep Kq2584 (ninS ne2501 nin0)
  have f2591 := f2573.keep Kq2584 (ninS ne2502 nin0)
  have f2592 := f2574.keep Kq2584 (ninS ne2503 nin0)
  have f2593 := f2575.keep Kq2584 (ninS ne2504 nin0)
  have f2594 := f2576.keep Kq2584 (ninS ne2505 nin0)
  have f2595 := f2577.keep Kq2584 (ninS ne2506 nin0)
  have f2596 := f2578.keep Kq2584 (ninS ne2501 nin0)
  have f2597 := f2579.keep Kq2584
  have f2598 := f2580.keep Kq2584 (ninS ne2501 nin0)
  have z2600 := Nat.le_trans z2581 Kq2584.1
  have K2601 := K2582.trans Kq2584 (allS (Or.inr sz2508) all0)
  rcases fk2584 with fk2584 | fk2584
  ·
    show own_Go _ _ _ _ _ (State.setTop _ (mkF _ 77 #[.val (.ref o), .val (.int (2 : Int32)), .val (.int (1 : Int32)), .val (.int (1 : Int32)), .unset] []))
    refine own_iinc X2584 hx 80 rfl (hb hby own_d7_77) rfl #[.val (.ref o), .val (.int (2 : Int32)), .val (.int (2 : Int32)), .val (.int (1 : Int32)), .unset] rfl ?_
    refine own_goto X2584 hx 109 (hb hby own_d7_80) (by decide) rfl ?_
    refine own_iinc X2584 hx 112 rfl (hb hby own_d7_109) rfl #[.val (.ref o), .val (.int (2 : Int32)), .val (.int (2 : Int32)), .val (.int (2 : Int32)), .unset] rfl ?_
    refine own_goto X2584 hx 52 (hb hby own_d7_112) (by decide) rfl ?_
    refine own_iloadN X2584 hx 53 rfl (hb hby own_d7_52) rfl ?_
    refine own_aloadN X2584 hx 54 rfl (hb hby own_d7_53) rfl rfl ?_
    refine own_getF X2584 hx hZ (host := "") hown (Or.inl (own_hw hw 26 rfl)) Via.refl rfl f2596 57 rfl (hb hby own_d7_54) fun T2602 X2602 e2602 => ?_
    refine own_icmpNo X2602 hx 60 rfl (hb hby own_d7_57) (by decide) ?_
    refine own_iloadN X2602 hx 61 rfl (hb hby own_d7_60) rfl ?_
    refine own_iloadN X2602 hx 62 rfl (hb hby own_d7_61) rfl ?_
    refine own_icmpNo X2602 hx 65 rfl (hb hby own_d7_62) (by decide) ?_
    refine own_aloadN X2602 hx 66 rfl (hb hby own_d7_65) rfl rfl ?_
    refine own_getF X2602 hx hZ (host := "") hown (Or.inl (own_hw hw 19 rfl)) Via.refl e2602 f2598 69 rfl (hb hby own_d7_66) fun T2603 X2603 e2603 => ?_
    refine own_iloadN X2603 hx 70 rfl (hb hby own_d7_69) rfl ?_
    refine own_iloadN X2603 hx 71 rfl (hb hby own_d7_70) rfl ?_
    refine own_stI X2603 hx hZ e2603 fk2584 ⟨by decide, by decide⟩ 2 rfl (Nat.le_of_ble_eq_true rfl) [(.int (0 : Int32)), (.int (1 : Int32)), (.int (2 : Int32))] rfl 72 rfl (hb hby own_d7_71) fun T2604 h2604 X2604 e2604 W2604 f2605 => ?_
    have f2606 := f2586.wr W2604
    have f2607 := f2587.other W2604 (Or.inl ne2501)
    have f2608 := f2588.other W2604 (Or.inl ne2501)
    have f2609 := f2589.other W2604 (Or.inl ne2501)
    have f2610 := f2590.other W2604 (Or.inl ne2501)
    have f2611 := f2591.other W2604 ne2502
    have f2612 := f2592.other W2604 ne2503
    have f2613 := f2593.other W2604 ne2504
    have f2614 := f2594.other W2604 ne2505
    have f2615 := f2595.other W2604 ne2506
    have f2616 := f2596.other W2604 (Or.inl ne2501)
    have f2617 := f2597.wr W2604
    have f2618 := f2598.other W2604 (Or.inl ne2501)
    have z2619 := Nat.le_trans z2600 (Keep.of_wr W2604).1
    have K2620 := K2601.wr W2604 (Or.inr sz2508)
    have N2621 := Fr.snoc X2604 N2585 ge2507
    refine own_aloadN X2604 hx 73 rfl (hb hby own_d7_72) rfl rfl ?_
    refine own_iloadN X2604 hx 74 rfl (hb hby own_d7_73) rfl ?_
    refine own_private X2604 hx hZ (y := (⟨"com/example/prizepath/prizepath/Insertions", "siftUp", "(I)V"⟩ : MethodName)) (z := (⟨"com/example/prizepath/prizepath/Insertions", "clear", "()V"⟩ : MethodName)) hown (own_hw hw 49 rfl) (own_hw hw 50 rfl) rfl (own_hw hw 24 rfl) (own_hw hw 51 rfl) (a := o) f2606 (by decide) (rm_up23a l Z a0 hw [] o a1 a2 a3 a4 b2500 k1 k2 k3 k4 k2500 c0 c1 c2 r0 r1 r2 p0 p1 p2 d0 d1 d2 h2604 n0 z2619 f2606 f2607 f2608 f2609 f2610 f2618 f2611 f2612 f2613 f2614 f2605 ge2507 ne2502 ne2503 ne2504 ne2505 ne2501 nd0 nd1 nd2) (own_hw hw 52 rfl) (own_hw hw 2 rfl) (by decide) e2604 (by rw [hml]; rfl) [(.int (2 : Int32))] 0 (by decide) (Nat.le_of_eq rfl) (by decide) (by decide) (lenOf own_pd7 rfl) rfl rfl 77 rfl (hb hby own_d7_74) fun v2622 T2622 Lc2622 X2622 hQ2622 => ?_
    obtain ⟨rfl, Nq2622, Kq2622, fk2622⟩ := hQ2622
    have N2623 := Fr.app N2621 Nq2622
    have f2624 := f2606.keep Kq2622
    have f2625 := f2607.keep Kq2622 (ninS ne2501 nin0)
    have f2626 := f2608.keep Kq2622 (ninS ne2501 nin0)
    have f2627 := f2609.keep Kq2622 (ninS ne2501 nin0)
    have f2628 := f2610.keep Kq2622 (ninS ne2501 nin0)
    have f2629 := f2611.keep Kq2622 (ninS ne2502 nin0)
    have f2630 := f2612.keep Kq2622 (ninS ne2503 nin0)
    have f2631 := f2613.keep Kq2622 (ninS ne2504 nin0)
    have f2632 := f2614.keep Kq2622 (ninS ne2505 nin0)
    have f2633 := f2615.keep Kq2622 (ninS ne2506 nin0)
    have f2634 := f2616.keep Kq2622 (ninS ne2501 nin0)
    have f2635 := f2617.keep Kq2622
    have f2636 := f2618.keep Kq2622 (ninS ne2501 nin0)
    have z2638 := Nat.le_trans z2619 Kq2622.1
    have K2639 := K2620.trans Kq2622 (allS (Or.inr sz2508) all0)
    rcases fk2622 with fk2622 | fk2622
    ·
      show own_Go _ _ _ _ _ (State.setTop _ (mkF _ 77 #[.val (.ref o), .val (.int (2 : Int32)), .val (.int (2 : Int32)), .val (.int (2 : Int32)), .unset] []))
      refine own_iinc X2622 hx 80 rfl (hb hby own_d7_77) rfl #[.val (.ref o), .val (.int (2 : Int32)), .val (.int (3 : Int32)), .val (.int (2 : Int32)), .unset] rfl ?_
      refine own_goto X2622 hx 109 (hb hby own_d7_80) (by decide) rfl ?_
      refine own_iinc X2622 hx 112 rfl (hb hby own_d7_109) rfl #[.val (.ref o), .val (.int (2 : Int32)), .val (.int (3 : Int32)), .val (.int (3 : Int32)), .unset] rfl ?_
      refine own_goto X2622 hx 52 (hb hby own_d7_112) (by decide) rfl ?_
      refine own_iloadN X2622 hx 53 rfl (hb hby own_d7_52) rfl ?_
      refine own_aloadN X2622 hx 54 rfl (hb hby own_d7_53) rfl rfl ?_
      refine own_getF X2622 hx hZ (host := "") hown (Or.inl (own_hw hw 26 rfl)) Via.refl rfl f2634 57 rfl (hb hby own_d7_54) fun T2640 X2640 e2640 => ?_
      refine own_icmpYes X2640 hx 115 (hb hby own_d7_57) (by decide) (by decide) rfl ?_
      refine own_aloadN X2640 hx 116 rfl (hb hby own_d7_115) rfl rfl ?_
      refine own_getF X2640 hx hZ (host := "") hown (Or.inl (own_hw hw 19 rfl)) Via.refl e2640 f2636 119 rfl (hb hby own_d7_116) fun T2641 X2641 e2641 => ?_
      refine own_iconst X2641 hx 120 rfl (hb hby own_d7_119) (0 : Int32) rfl ?_
      refine own_ldI X2641 hx hZ e2641 fk2622 ⟨by decide, by decide⟩ (0 : Int32) rfl 121 rfl (hb hby own_d7_120) ?_
      refine own_istoreN X2641 hx 122 rfl (hb hby own_d7_121) #[.val (.ref o), .val (.int (2 : Int32)), .val (.int (3 : Int32)), .val (.int (0 : Int32)), .unset] rfl ?_
      refine own_new X2641 hx hZ hown (own_hw hw 53 rfl) (own_hw hw 54 rfl) (own_hw hw 55 rfl) e2641 125 rfl (hb hby own_d7_122) (by decide) (by decide) fun T2642 h2642 b2642 g2642 X2642 e2642 E2642 A2642 D2642 => ?_
      have ne2643 : o ≠ b2642 := Nat.ne_of_lt (Nat.lt_of_lt_of_le f2624.lt (Nat.le_of_eq g2642.symm))
      have ne2644 : a1 ≠ b2642 := Nat.ne_of_lt (Nat.lt_of_lt_of_le f2629.lt (Nat.le_of_eq g2642.symm))
      have ne2645 : a2 ≠ b2642 := Nat.ne_of_lt (Nat.lt_of_lt_of_le f2630.lt (Nat.le_of_eq g2642.symm))
      have ne2646 : a3 ≠ b2642 := Nat.ne_of_lt (Nat.lt_of_lt_of_le f2631.lt (Nat.le_of_eq g2642.symm))
      have ne2647 : a4 ≠ b2642 := Nat.ne_of_lt (Nat.lt_of_lt_of_le f2632.lt (Nat.le_of_eq g2642.symm))
      have ne2648 : a5 ≠ b2642 := Nat.ne_of_lt (Nat.lt_of_lt_of_le f2633.lt (Nat.le_of_eq g2642.symm))
      have ne2649 : b2500 ≠ b2642 := Nat.ne_of_lt (Nat.lt_of_lt_of_le f2635.lt (Nat.le_of_eq g2642.symm))
      have ge2650 : n0 ≤ b2642 := Nat.le_trans z2638 (Nat.le_of_eq g2642.symm)
      have sz2651 : h0.size ≤ b2642 := Nat.le_trans K2639.1 (Nat.le_of_eq g2642.symm)
      have f2652 := f2624.ext E2642
      have f2653 := f2625.ext E2642
      have f2654 := f2626.ext E2642
      have f2655 := f2627.ext E2642
      have f2656 := f2628.ext E2642
      have f2657 := f2629.ext E2642
      have f2658 := f2630.ext E2642
      have f2659 := f2631.ext E2642
      have f2660 := f2632.ext E2642
      have f2661 := f2633.ext E2642
      have f2662 := f2634.ext E2642
      have f2663 := f2635.ext E2642
      have f2664 := f2636.ext E2642
      have f2665 := fk2622.ext E2642
      have z2666 := Nat.le_trans z2638 E2642.1
      have K2667 := K2639.ext E2642
      have f2668 : Fld Z h2642 b2642 "com/example/prizepath/prizepath/Insertions$Insertion" "customer" "I" (.int (0 : Int32)) := D2642 (Or.inr (own_hw hw 66 rfl)) (ty := .int) (by decide)
      have f2669 : Fld Z h2642 b2642 "com/example/prizepath/prizepath/Insertions$Insertion" "route" "I" (.int (0 : Int32)) := D2642 (Or.inr (own_hw hw 68 rfl)) (ty := .int) (by decide)
      have f2670 : Fld Z h2642 b2642 "com/example/prizepath/prizepath/Insertions$Insertion" "place" "I" (.int (0 : Int32)) := D2642 (Or.inr (own_hw hw 70 rfl)) (ty := .int) (by decide)
      refine own_dup X2642 hx 126 rfl (hb hby own_d7_125) rfl ?_
      refine own_aloadN X2642 hx 127 rfl (hb hby own_d7_126) rfl rfl ?_
      refine own_getF X2642 hx hZ (host := "") hown (Or.inl (own_hw hw 10 rfl)) Via.refl e2642 f2653 130 rfl (hb hby own_d7_127) fun T2671 X2671 e2671 => ?_
      refine own_iloadN X2671 hx 131 rfl (hb hby own_d7_130) rfl ?_
      refine own_ldI X2671 hx hZ e2671 f2657 ⟨by decide, by decide⟩ c0 rfl 132 rfl (hb hby own_d7_131) ?_
      refine own_aloadN X2671 hx 133 rfl (hb hby own_d7_132) rfl rfl ?_
      refine own_getF X2671 hx hZ (host := "") hown (Or.inl (own_hw hw 12 rfl)) Via.refl e2671 f2654 136 rfl (hb hby own_d7_133) fun T2672 X2672 e2672 => ?_
      refine own_iloadN X2672 hx 137 rfl (hb hby own_d7_136) rfl ?_
      refine own_ldI X2672 hx hZ e2672 f2658 ⟨by decide, by decide⟩ r0 rfl 138 rfl (hb hby own_d7_137) ?_
      refine own_aloadN X2672 hx 139 rfl (hb hby own_d7_138) rfl rfl ?_
      refine own_getF X2672 hx hZ (host := "") hown (Or.inl (own_hw hw 14 rfl)) Via.refl e2672 f2655 142 rfl (hb hby own_d7_139) fun T2673 X2673 e2673 => ?_
      refine own_iloadN X2673 hx 143 rfl (hb hby own_d7_142) rfl ?_
      refine own_ldI X2673 hx hZ e2673 f2659 ⟨by decide, by decide⟩ p0 rfl 144 rfl (hb hby own_d7_143) ?_
      refine own_special X2673 hx hZ (y := (⟨"com/example/prizepath/prizepath/Insertions$Insertion", "<init>", "(III)V"⟩ : MethodName)) hown rfl (own_hw hw 56 rfl) (own_hw hw 57 rfl) (a := b2642) (by decide) rfl (rm_ins l Z a0 hw [] b2642 c0 r0 p0 h2642 n0 z2666 A2642 f2668 f2669 f2670 ge2650) (own_hw hw 58 rfl) (own_hw hw 55 rfl) (by decide) e2673 (by rw [hml]; rfl) [(.int c0), (.int r0), (.int p0)] 1 (by decide) (Nat.le_of_eq rfl) (by decide) (by decide) (lenOf own_pd8 rfl) rfl rfl 147 rfl (hb hby own_d7_144) fun v2674 T2674 Lc2674 X2674 hQ2674 => ?_
      obtain ⟨rfl, Nq2674, Kq2674, f2675, f2676, f2677, f2678⟩ := hQ2674
      have N2679 := Fr.app N2623 Nq2674
      have f2680 := f2652.keep Kq2674
      have f2681 := f2653.keep Kq2674 (ninS ne2643 nin0)
      have f2682 := f2654.keep Kq2674 (ninS ne2643 nin0)
      have f2683 := f2655.keep Kq2674 (ninS ne2643 nin0)
      have f2684 := f2656.keep Kq2674 (ninS ne2643 nin0)
      have f2685 := f2657.keep Kq2674 (ninS ne2644 nin0)
      have f2686 := f2658.keep Kq2674 (ninS ne2645 nin0)
      have f2687 := f2659.keep Kq2674 (ninS ne2646 nin0)
      have f2688 := f2660.keep Kq2674 (ninS ne2647 nin0)
      have f2689 := f2661.keep Kq2674 (ninS ne2648 nin0)
      have f2690 := f2662.keep Kq2674 (ninS ne2643 nin0)
      have f2691 := f2663.keep Kq2674
      have f2692 := f2664.keep Kq2674 (ninS ne2643 nin0)
      have f2693 := f2665.keep Kq2674 (ninS ne2649 nin0)
      have f2694 := A2642.keep Kq2674
      have z2698 := Nat.le_trans z2666 Kq2674.1
      have K2699 := K2667.trans Kq2674 (allS (Or.inr sz2651) all0)
      show own_Go _ _ _ _ _ (State.setTop _ (mkF _ 147 _ [(.ref b2642)]))
      refine own_astore X2674 hx 149 rfl (hb hby own_d7_147) rfl #[.val (.ref o), .val (.int (2 : Int32)), .val (.int (3 : Int32)), .val (.int (0 : Int32)), .val (.ref b2642)] rfl ?_
      refine own_aloadN X2674 hx 150 rfl (hb hby own_d7_149) rfl rfl ?_
      refine own_iloadN X2674 hx 151 rfl (hb hby own_d7_150) rfl ?_
      refine own_private X2674 hx hZ (y := (⟨"com/example/prizepath/prizepath/Insertions", "moveLastTo", "(I)V"⟩ : MethodName)) (z := (⟨"com/example/prizepath/prizepath/Insertions", "clear", "()V"⟩ : MethodName)) hown (own_hw hw 71 rfl) (own_hw hw 72 rfl) rfl (own_hw hw 24 rfl) (own_hw hw 73 rfl) (a := o) f2680 (by decide) (rm_mv30 l Z a0 hw [] o a1 a2 a3 a4 k1 k2 k3 k4 c0 c1 c2 r0 r1 r2 p0 p1 p2 d0 d1 d2 T2674.heap n0 z2698 f2680 f2681 f2682 f2683 f2684 f2685 f2686 f2687 f2688 f2690 g_o g_a1 g_a2 g_a3 g_a4 n_oa1 n_oa2 n_oa3 n_oa4 n_a1a2 n_a1a3 n_a1a4 n_a2a3 n_a2a4 n_a3a4) (own_hw hw 74 rfl) (own_hw hw 2 rfl) (by decide) rfl (by rw [hml]; rfl) [(.int (0 : Int32))] 0 (by decide) (Nat.le_of_eq rfl) (by decide) (by decide) (lenOf own_pd7 rfl) rfl rfl 154 rfl (hb hby own_d7_151) fun v2700 T2700 Lc2700 X2700 hQ2700 => ?_
      obtain ⟨rfl, Nq2700, Kq2700, f2701⟩ := hQ2700
      have N2702 := Fr.app N2679 Nq2700
      have f2703 := f2680.keep Kq2700
      have f2712 := f2689.keep Kq2700 (ninS (Ne.symm n_oa5) (ninS (Ne.symm n_a1a5) (ninS (Ne.symm n_a2a5) (ninS (Ne.symm n_a3a5) (ninS (Ne.symm n_a4a5) nin0)))))
      have f2714 := f2691.keep Kq2700
      have f2716 := f2693.keep Kq2700 (ninS (Ne.symm ne2501) (ninS (Ne.symm ne2502) (ninS (Ne.symm ne2503) (ninS (Ne.symm ne2504) (ninS (Ne.symm ne2505) nin0)))))
      have f2717 := f2675.keep Kq2700
      have f2718 := f2676.keep Kq2700 (ninS (Ne.symm ne2643) (ninS (Ne.symm ne2644) (ninS (Ne.symm ne2645) (ninS (Ne.symm ne2646) (ninS (Ne.symm ne2647) nin0)))))
      have f2719 := f2677.keep Kq2700 (ninS (Ne.symm ne2643) (ninS (Ne.symm ne2644) (ninS (Ne.symm ne2645) (ninS (Ne.symm ne2646) (ninS (Ne.symm ne2647) nin0)))))
      have f2720 := f2678.keep Kq2700 (ninS (Ne.symm ne2643) (ninS (Ne.symm ne2644) (ninS (Ne.symm ne2645) (ninS (Ne.symm ne2646) (ninS (Ne.symm ne2647) nin0)))))
      have z2721 := Nat.le_trans z2698 Kq2700.1
      have K2722 := K2699.trans Kq2700 (allS (Or.inl (List.mem_of_getElem? (i := 0) rfl)) (allS (Or.inl (List.mem_of_getElem? (i := 1) rfl)) (allS (Or.inl (List.mem_of_getElem? (i := 2) rfl)) (allS (Or.inl (List.mem_of_getElem? (i := 3) rfl)) (allS (Or.inl (List.mem_of_getElem? (i := 4) rfl)) all0)))))
      show own_Go _ _ _ _ _ (State.setTop _ (mkF _ 154 _ []))
      refine own_aload X2700 hx 156 rfl (hb hby own_d7_154) rfl rfl ?_
      refine own_ret X2700 (some (.ref b2642)) (fun h => by rw [Bd.returns] at h; cases h) Bd.notSynchronized (by decide) (by decide) ?_ (fun fs hr => own_retR X2700 hx Bd.returns rfl rfl (hb hby own_d7_156) hr)
      show Q_rm_take32 Z o a1 a2 a3 a4 a5 k1 k2 k3 k4 k5 c0 c1 c2 r0 r1 r2 p0 p1 p2 d0 d1 d2 h0 n0 _ T2700.heap _
      exact ⟨_, rfl, N2702, K2722, f2701⟩
    ·
      show own_Go _ _ _ _ _ (State.setTop _ (mkF _ 77 #[.val (.ref o), .val (.int (2 : Int32)), .val (.int (2 : Int32)), .val (.int (2 : Int32)), .unset] []))
      refine own_iinc X2622 hx 80 rfl (hb hby own_d7_77) rfl #[.val (.ref o), .val (.int (2 : Int32)), .val (.int (3 : Int32)), .val (.int (2 : Int32)), .unset] rfl ?_
      refine own_goto X2622 hx 109 (hb hby own_d7_80) (by decide) rfl ?_
      refine own_iinc X2622 hx 112 rfl (hb hby own_d7_109) rfl #[.val (.ref o), .val (.int (2 : Int32)), .val (.int (3 : Int32)), .val (.int (3 : Int32)), .unset] rfl ?_
      refine own_goto X2622 hx 52 (hb hby own_d7_112) (by decide) rfl ?_
      refine own_iloadN X2622 hx 53 rfl (hb hby own_d7_52) rfl ?_
      refine own_aloadN X2622 hx 54 rfl (hb hby own_d7_53) rfl rfl ?_
      refine own_getF X2622 hx hZ (host := "") hown (Or.inl (own_hw hw 26 rfl)) Via.refl rfl f2634 57 rfl (hb hby own_d7_54) fun T2723 X2723 e2723 => ?_
      refine own_icmpYes X2723 hx 115 (hb hby own_d7_57) (by decide) (by decide) rfl ?_
      refine own_aloadN X2723 hx 116 rfl (hb hby own_d7_115) rfl rfl ?_
      refine own_getF X2723 hx hZ (host := "") hown (Or.inl (own_hw hw 19 rfl)) Via.refl e2723 f2636 119 rfl (hb hby own_d7_116) fun T2724 X2724 e2724 => ?_
      refine own_iconst X2724 hx 120 rfl (hb hby own_d7_119) (0 : Int32) rfl ?_
      refine own_ldI X2724 hx hZ e2724 fk2622 ⟨by decide, by decide⟩ (2 : Int32) rfl 121 rfl (hb hby own_d7_120) ?_
      refine own_istoreN X2724 hx 122 rfl (hb hby own_d7_121) #[.val (.ref o), .val (.int (2 : Int32)), .val (.int (3 : Int32)), .val (.int (2 : Int32)), .unset] rfl ?_
      refine own_new X2724 hx hZ hown (own_hw hw 53 rfl) (own_hw hw 54 rfl) (own_hw hw 55 rfl) e2724 125 rfl (hb hby own_d7_122) (by decide) (by decide) fun T2725 h2725 b2725 g2725 X2725 e2725 E2725 A2725 D2725 => ?_
      have ne2726 : o ≠ b2725 := Nat.ne_of_lt (Nat.lt_of_lt_of_le f2624.lt (Nat.le_of_eq g2725.symm))
      have ne2727 : a1 ≠ b2725 := Nat.ne_of_lt (Nat.lt_of_lt_of_le f2629.lt (Nat.le_of_eq g2725.symm))
      have ne2728 : a2 ≠ b2725 := Nat.ne_of_lt (Nat.lt_of_lt_of_le f2630.lt (Nat.le_of_eq g2725.symm))
      have ne2729 : a3 ≠ b2725 := Nat.ne_of_lt (Nat.lt_of_lt_of_le f2631.lt (Nat.le_of_eq g2725.symm))
      have ne2730 : a4 ≠ b2725 := Nat.ne_of_lt (Nat.lt_of_lt_of_le f2632.lt (Nat.le_of_eq g2725.symm))
      have ne2731 : a5 ≠ b2725 := Nat.ne_of_lt (Nat.lt_of_lt_of_le f2633.lt (Nat.le_of_eq g2725.symm))
      have ne2732 : b2500 ≠ b2725 := Nat.ne_of_lt (Nat.lt_of_lt_of_le f2635.lt (Nat.le_of_eq g2725.symm))
      have ge2733 : n0 ≤ b2725 := Nat.le_trans z2638 (Nat.le_of_eq g2725.symm)
      have sz2734 : h0.size ≤ b2725 := Nat.le_trans K2639.1 (Nat.le_of_eq g2725.symm)
      have f2735 := f2624.ext E2725
      have f2736 := f2625.ext E2725
      have f2737 := f2626.ext E2725
      have f2738 := f2627.ext E2725
      have f2739 := f2628.ext E2725
      have f2740 := f2629.ext E2725
      have f2741 := f2630.ext E2725
      have f2742 := f2631.ext E2725
      have f2743 := f2632.ext E2725
      have f2744 := f2633.ext E2725
      have f2745 := f2634.ext E2725
      have f2746 := f2635.ext E2725
      have f2747 := f2636.ext E2725
      have f2748 := fk2622.ext E2725
      have z2749 := Nat.le_trans z2638 E2725.1
      have K2750 := K2639.ext E2725
      have f2751 : Fld Z h2725 b2725 "com/example/prizepath/prizepath/Insertions$Insertion" "customer" "I" (.int (0 : Int32)) := D2725 (Or.inr (own_hw hw 66 rfl)) (ty := .int) (by decide)
      have f2752 : Fld Z h2725 b2725 "com/example/prizepath/prizepath/Insertions$Insertion" "route" "I" (.int (0 : Int32)) := D2725 (Or.inr (own_hw hw 68 rfl)) (ty := .int) (by decide)
      have f2753 : Fld Z h2725 b2725 "com/example/prizepath/prizepath/Insertions$Insertion" "place" "I" (.int (0 : Int32)) := D2725 (Or.inr (own_hw hw 70 rfl)) (ty := .int) (by decide)
      refine own_dup X2725 hx 126 rfl (hb hby own_d7_125) rfl ?_
      refine own_aloadN X2725 hx 127 rfl (hb hby own_d7_126) rfl rfl ?_
      refine own_getF X2725 hx hZ (host := "") hown (Or.inl (own_hw hw 10 rfl)) Via.refl e2725 f2736 130 rfl (hb hby own_d7_127) fun T2754 X2754 e2754 => ?_
      refine own_iloadN X2754 hx 131 rfl (hb hby own_d7_130) rfl ?_
      refine own_ldI X2754 hx hZ e2754 f2740 ⟨by decide, by decide⟩ c2 rfl 132 rfl (hb hby own_d7_131) ?_
      refine own_aloadN X2754 hx 133 rfl (hb hby own_d7_132) rfl rfl ?_
      refine own_getF X2754 hx hZ (host := "") hown (Or.inl (own_hw hw 12 rfl)) Via.refl e2754 f2737 136 rfl (hb hby own_d7_133) fun T2755 X2755 e2755 => ?_
      refine own_iloadN X2755 hx 137 rfl (hb hby own_d7_136) rfl ?_
      refine own_ldI X2755 hx hZ e2755 f2741 ⟨by decide, by decide⟩ r2 rfl 138 rfl (hb hby own_d7_137) ?_
      refine own_aloadN X2755 hx 139 rfl (hb hby own_d7_138) rfl rfl ?_
      refine own_getF X2755 hx hZ (host := "") hown (Or.inl (own_hw hw 14 rfl)) Via.refl e2755 f2738 142 rfl (hb hby own_d7_139) fun T2756 X2756 e2756 => ?_
      refine own_iloadN X2756 hx 143 rfl (hb hby own_d7_142) rfl ?_
      refine own_ldI X2756 hx hZ e2756 f2742 ⟨by decide, by decide⟩ p2 rfl 144 rfl (hb hby own_d7_143) ?_
      refine own_special X2756 hx hZ (y := (⟨"com/example/prizepath/prizepath/Insertions$Insertion", "<init>", "(III)V"⟩ : MethodName)) hown rfl (own_hw hw 56 rfl) (own_hw hw 57 rfl) (a := b2725) (by decide) rfl (rm_ins l Z a0 hw [] b2725 c2 r2 p2 h2725 n0 z2749 A2725 f2751 f2752 f2753 ge2733) (own_hw hw 58 rfl) (own_hw hw 55 rfl) (by decide) e2756 (by rw [hml]; rfl) [(.int c2), (.int r2), (.int p2)] 1 (by decide) (Nat.le_of_eq rfl) (by decide) (by decide) (lenOf own_pd8 rfl) rfl rfl 147 rfl (hb hby own_d7_144) fun v2757 T2757 Lc2757 X2757 hQ2757 => ?_
      obtain ⟨rfl, Nq2757, Kq2757, f2758, f2759, f2760, f2761⟩ := hQ2757
      have N2762 := Fr.app N2623 Nq2757
      have f2763 := f2735.keep Kq2757
      have f2764 := f2736.keep Kq2757 (ninS ne2726 nin0)
      have f2765 := f2737.keep Kq2757 (ninS ne2726 nin0)
      have f2766 := f2738.keep Kq2757 (ninS ne2726 nin0)
      have f2767 := f2739.keep Kq2757 (ninS ne2726 nin0)
      have f2768 := f2740.keep Kq2757 (ninS ne2727 nin0)
      have f2769 := f2741.keep Kq2757 (ninS ne2728 nin0)
      have f2770 := f2742.keep Kq2757 (ninS ne2729 nin0)
      have f2771 := f2743.keep Kq2757 (ninS ne2730 nin0)
      have f2772 := f2744.keep Kq2757 (ninS ne2731 nin0)
      have f2773 := f2745.keep Kq2757 (ninS ne2726 nin0)
      have f2774 := f2746.keep Kq2757
      have f2775 := f2747.keep Kq2757 (ninS ne2726 nin0)
      have f2776 := f2748.keep Kq2757 (ninS ne2732 nin0)
      have f2777 := A2725.keep Kq2757
      have z2781 := Nat.le_trans z2749 Kq2757.1
      have K2782 := K2750.trans Kq2757 (allS (Or.inr sz2734) all0)
      show own_Go _ _ _ _ _ (State.setTop _ (mkF _ 147 _ [(.ref b2725)]))
      refine own_astore X2757 hx 149 rfl (hb hby own_d7_147) rfl #[.val (.ref o), .val (.int (2 : Int32)), .val (.int (3 : Int32)), .val (.int (2 : Int32)), .val (.ref b2725)] rfl ?_
      refine own_aloadN X2757 hx 150 rfl (hb hby own_d7_149) rfl rfl ?_
      refine own_iloadN X2757 hx 151 rfl (hb hby own_d7_150) rfl ?_
      refine own_private X2757 hx hZ (y := (⟨"com/example/prizepath/prizepath/Insertions", "moveLastTo", "(I)V"⟩ : MethodName)) (z := (⟨"com/example/prizepath/prizepath/Insertions", "clear", "()V"⟩ : MethodName)) hown (own_hw hw 71 rfl) (own_hw hw 72 rfl) rfl (own_hw hw 24 rfl) (own_hw hw 73 rfl) (a := o) f2763 (by decide) (rm_mv32 l Z a0 hw [] o a1 a2 a3 a4 k1 k2 k3 k4 c0 c1 c2 r0 r1 r2 p0 p1 p2 d0 d1 d2 T2757.heap n0 z2781 f2763 f2764 f2765 f2766 f2767 f2768 f2769 f2770 f2771 f2773 g_o g_a1 g_a2 g_a3 g_a4 n_oa1 n_oa2 n_oa3 n_oa4 n_a1a2 n_a1a3 n_a1a4 n_a2a3 n_a2a4 n_a3a4) (own_hw hw 74 rfl) (own_hw hw 2 rfl) (by decide) rfl (by rw [hml]; rfl) [(.int (2 : Int32))] 0 (by decide) (Nat.le_of_eq rfl) (by decide) (by decide) (lenOf own_pd7 rfl) rfl rfl 154 rfl (hb hby own_d7_151) fun v2783 T2783 Lc2783 X2783 hQ2783 => ?_
      obtain ⟨rfl, Nq2783, Kq2783, f2784⟩ := hQ2783
      have N2785 := Fr.app N2762 Nq2783
      have f2786 := f2763.keep Kq2783
      have f2795 := f2772.keep Kq2783 (ninS (Ne.symm n_oa5) (ninS (Ne.symm n_a1a5) (ninS (Ne.symm n_a2a5) (ninS (Ne.symm n_a3a5) (ninS (Ne.symm n_a4a5) nin0)))))
      have f2797 := f2774.keep Kq2783
      have f2799 := f2776.keep Kq2783 (ninS (Ne.symm ne2501) (ninS (Ne.symm ne2502) (ninS (Ne.symm ne2503) (ninS (Ne.symm ne2504) (ninS (Ne.symm ne2505) nin0)))))
      have f2800 := f2758.keep Kq2783
      have f2801 := f2759.keep Kq2783 (ninS (Ne.symm ne2726) (ninS (Ne.symm ne2727) (ninS (Ne.symm ne2728) (ninS (Ne.symm ne2729) (ninS (Ne.symm ne2730) nin0)))))
      have f2802 := f2760.keep Kq2783 (ninS (Ne.symm ne2726) (ninS (Ne.symm ne2727) (ninS (Ne.symm ne2728) (ninS (Ne.symm ne2729) (ninS (Ne.symm ne2730) nin0)))))
      have f2803 := f2761.keep Kq2783 (ninS (Ne.symm ne2726) (ninS (Ne.symm ne2727) (ninS (Ne.symm ne2728) (ninS (Ne.symm ne2729) (ninS (Ne.symm ne2730) nin0)))))
      have z2804 := Nat.le_trans z2781 Kq2783.1
      have K2805 := K2782.trans Kq2783 (allS (Or.inl (List.mem_of_getElem? (i := 0) rfl)) (allS (Or.inl (List.mem_of_getElem? (i := 1) rfl)) (allS (Or.inl (List.mem_of_getElem? (i := 2) rfl)) (allS (Or.inl (List.mem_of_getElem? (i := 3) rfl)) (allS (Or.inl (List.mem_of_getElem? (i := 4) rfl)) all0)))))
      show own_Go _ _ _ _ _ (State.setTop _ (mkF _ 154 _ []))
      refine own_aload X2783 hx 156 rfl (hb hby own_d7_154) rfl rfl ?_
      refine own_ret X2783 (some (.ref b2725)) (fun h => by rw [Bd.returns] at h; cases h) Bd.notSynchronized (by decide) (by decide) ?_ (fun fs hr => own_retR X2783 hx Bd.returns rfl rfl (hb hby own_d7_156) hr)
      show Q_rm_take32 Z o a1 a2 a3 a4 a5 k1 k2 k3 k4 k5 c0 c1 c2 r0 r1 r2 p0 p1 p2 d0 d1 d2 h0 n0 _ T2783.heap _
      exact ⟨_, rfl, N2785, K2805, f2784⟩
  ·
    show own_Go _ _ _ _ _ (State.setTop _ (mkF _ 77 #[.val (.ref o), .val (.int (2 : Int32)), .val (.int (1 : Int32)), .val (.int (1 : Int32)), .unset] []))
    refine own_iinc X2584 hx 80 rfl (hb hby own_d7_77) rfl #[.val (.ref o), .val (.int (2 : Int32)), .val (.int (2 : Int32)), .val (.int (1 : Int32)), .unset] rfl ?_
    refine own_goto X2584 hx 109 (hb hby own_d7_80) (by decide) rfl ?_
    refine own_iinc X2584 hx 112 rfl (hb hby own_d7_109) rfl #[.val (.ref o), .val (.int (2 : Int32)), .val (.int (2 : Int32)), .val (.int (2 : Int32)), .unset] rfl ?_
    refine own_goto X2584 hx 52 (hb hby own_d7_112) (by decide) rfl ?_
    refine own_iloadN X2584 hx 53 rfl (hb hby own_d7_52) rfl ?_
    refine own_aloadN X2584 hx 54 rfl (hb hby own_d7_53) rfl rfl ?_
    refine own_getF X2584 hx hZ (host := "") hown (Or.inl (own_hw hw 26 rfl)) Via.refl rfl f2596 57 rfl (hb hby own_d7_54) fun T2806 X2806 e2806 => ?_
    refine own_icmpNo X2806 hx 60 rfl (hb hby own_d7_57) (by decide) ?_
    refine own_iloadN X2806 hx 61 rfl (hb hby own_d7_60) rfl ?_
    refine own_iloadN X2806 hx 62 rfl (hb hby own_d7_61) rfl ?_
    refine own_icmpNo X2806 hx 65 rfl (hb hby own_d7_62) (by decide) ?_
    refine own_aloadN X2806 hx 66 rfl (hb hby own_d7_65) rfl rfl ?_
    refine own_getF X2806 hx hZ (host := "") hown (Or.inl (own_hw hw 19 rfl)) Via.refl e2806 f2598 69 rfl (hb hby own_d7_66) fun T2807 X2807 e2807 => ?_
    refine own_iloadN X2807 hx 70 rfl (hb hby own_d7_69) rfl ?_
    refine own_iloadN X2807 hx 71 rfl (hb hby own_d7_70) rfl ?_
    refine own_stI X2807 hx hZ e2807 fk2584 ⟨by decide, by decide⟩ 2 rfl (Nat.le_of_ble_eq_true rfl) [(.int (1 : Int32)), (.int (0 : Int32)), (.int (2 : Int32))] rfl 72 rfl (hb hby own_d7_71) fun T2808 h2808 X2808 e2808 W2808 f2809 => ?_
    have f2810 := f2586.wr W2808
    have f2811 := f2587.other W2808 (Or.inl ne2501)
    have f2812 := f2588.other W2808 (Or.inl ne2501)
    have f2813 := f2589.other W2808 (Or.inl ne2501)
    have f2814 := f2590.other W2808 (Or.inl ne2501)
    have f2815 := f2591.other W2808 ne2502
    have f2816 := f2592.other W2808 ne2503
    have f2817 := f2593.other W2808 ne2504
    have f2818 := f2594.other W2808 ne2505
    have f2819 := f2595.other W2808 ne2506
    have f2820 := f2596.other W2808 (Or.inl ne2501)
    have f2821 := f2597.wr W2808
    have f2822 := f2598.other W2808 (Or.inl ne2501)
    have z2823 := Nat.le_trans z2600 (Keep.of_wr W2808).1
    have K2824 := K2601.wr W2808 (Or.inr sz2508)
    have N2825 := Fr.snoc X2808 N2585 ge2507
    refine own_aloadN X2808 hx 73 rfl (hb hby own_d7_72) rfl rfl ?_
    refine own_iloadN X2808 hx 74 rfl (hb hby own_d7_73) rfl ?_
    refine own_private X2808 hx hZ (y := (⟨"com/example/prizepath/prizepath/Insertions", "siftUp", "(I)V"⟩ : MethodName)) (z := (⟨"com/example/prizepath/prizepath/Insertions", "clear", "()V"⟩ : MethodName)) hown (own_hw hw 49 rfl) (own_hw hw 50 rfl) rfl (own_hw hw 24 rfl) (own_hw hw 51 rfl) (a := o) f2810 (by decide) (rm_up23b l Z a0 hw [] o a1 a2 a3 a4 b2500 k1 k2 k3 k4 k2500 c0 c1 c2 r0 r1 r2 p0 p1 p2 d0 d1 d2 h2808 n0 z2823 f2810 f2811 f2812 f2813 f2814 f2822 f2815 f2816 f2817 f2818 f2809 ge2507 ne2502 ne2503 ne2504 ne2505 ne2501 nd0 nd1 nd2) (own_hw hw 52 rfl) (own_hw hw 2 rfl) (by decide) e2808 (by rw [hml]; rfl) [(.int (2 : Int32))] 0 (by decide) (Nat.le_of_eq rfl) (by decide) (by decide) (lenOf own_pd7 rfl) rfl rfl 77 rfl (hb hby own_d7_74) fun v2826 T2826 Lc2826 X2826 hQ2826 => ?_
    obtain ⟨rfl, Nq2826, Kq2826, fk2826⟩ := hQ2826
    have N2827 := Fr.app N2825 Nq2826
    have f2828 := f2810.keep Kq2826
    have f2829 := f2811.keep Kq2826 (ninS ne2501 nin0)
    have f2830 := f2812.keep Kq2826 (ninS ne2501 nin0)
    have f2831 := f2813.keep Kq2826 (ninS ne2501 nin0)
    have f2832 := f2814.keep Kq2826 (ninS ne2501 nin0)
    have f2833 := f2815.keep Kq2826 (ninS ne2502 nin0)
    have f2834 := f2816.keep Kq2826 (ninS ne2503 nin0)
    have f2835 := f2817.keep Kq2826 (ninS ne2504 nin0)
    have f2836 := f2818.keep Kq2826 (ninS ne2505 nin0)
    have f2837 := f2819.keep Kq2826 (ninS ne2506 nin0)
    have f2838 := f2820.keep Kq2826 (ninS ne2501 nin0)
    have f2839 := f2821.keep Kq2826
    have f2840 := f2822.keep Kq2826 (ninS ne2501 nin0)
    have z2842 := Nat.le_trans z2823 Kq2826.1
    have K2843 := K2824.trans Kq2826 (allS (Or.inr sz2508) all0)
    rcases fk2826 with fk2826 | fk2826
    ·
      show own_Go _ _ _ _ _ (State.setTop _ (mkF _ 77 #[.val (.ref o), .val (.int (2 : Int32)), .val (.int (2 : Int32)), .val (.int (2 : Int32)), .unset] []))
      refine own_iinc X2826 hx 80 rfl (hb hby own_d7_77) rfl #[.val (.ref o), .val (.int (2 : Int32)), .val (.int (3 : Int32)), .val (.int (2 : Int32)), .unset] rfl ?_
      refine own_goto X2826 hx 109 (hb hby own_d7_80) (by decide) rfl ?_
      refine own_iinc X2826 hx 112 rfl (hb hby own_d7_109) rfl #[.val (.ref o), .val (.int (2 : Int32)), .val (.int (3 : Int32)), .val (.int (3 : Int32)), .unset] rfl ?_
      refine own_goto X2826 hx 52 (hb hby own_d7_112) (by decide) rfl ?_
      refine own_iloadN X2826 hx 53 rfl (hb hby own_d7_52) rfl ?_
      refine own_aloadN X2826 hx 54 rfl (hb hby own_d7_53) rfl rfl ?_
      refine own_getF X2826 hx hZ (host := "") hown (Or.inl (own_hw hw 26 rfl)) Via.refl rfl f2838 57 rfl (hb hby own_d7_54) fun T2844 X2844 e2844 => ?_
      refine own_icmpYes X2844 hx 115 (hb hby own_d7_57) (by decide) (by decide) rfl ?_
      refine own_aloadN X2844 hx 116 rfl (hb hby own_d7_115) rfl rfl ?_
      refine own_getF X2844 hx hZ (host := "") hown (Or.inl (own_hw hw 19 rfl)) Via.refl e2844 f2840 119 rfl (hb hby own_d7_116) fun T2845 X2845 e2845 => ?_
      refine own_iconst X2845 hx 120 rfl (hb hby own_d7_119) (0 : Int32) rfl ?_
      refine own_ldI X2845 hx hZ e2845 fk2826 ⟨by decide, by decide⟩ (1 : Int32) rfl 121 rfl (hb hby own_d7_120) ?_
      refine own_istoreN X2845 hx 122 rfl (hb hby own_d7_121) #[.val (.ref o), .val (.int (2 : Int32)), .val (.int (3 : Int32)), .val (.int (1 : Int32)), .unset] rfl ?_
      refine own_new X2845 hx hZ hown (own_hw hw 53 rfl) (own_hw hw 54 rfl) (own_hw hw 55 rfl) e2845 125 rfl (hb hby own_d7_122) (by decide) (by decide) fun T2846 h2846 b2846 g2846 X2846 e2846 E2846 A2846 D2846 => ?_
      have ne2847 : o ≠ b2846 := Nat.ne_of_lt (Nat.lt_of_lt_of_le f2828.lt (Nat.le_of_eq g2846.symm))
      have ne2848 : a1 ≠ b2846 := Nat.ne_of_lt (Nat.lt_of_lt_of_le f2833.lt (Nat.le_of_eq g2846.symm))
      have ne2849 : a2 ≠ b2846 := Nat.ne_of_lt (Nat.lt_of_lt_of_le f2834.lt (Nat.le_of_eq g2846.symm))
      have ne2850 : a3 ≠ b2846 := Nat.ne_of_lt (Nat.lt_of_lt_of_le f2835.lt (Nat.le_of_eq g2846.symm))
      have ne2851 : a4 ≠ b2846 := Nat.ne_of_lt (Nat.lt_of_lt_of_le f2836.lt (Nat.le_of_eq g2846.symm))
      have ne2852 : a5 ≠ b2846 := Nat.ne_of_lt (Nat.lt_of_lt_of_le f2837.lt (Nat.le_of_eq g2846.symm))
      have ne2853 : b2500 ≠ b2846 := Nat.ne_of_lt (Nat.lt_of_lt_of_le f2839.lt (Nat.le_of_eq g2846.symm))
      have ge2854 : n0 ≤ b2846 := Nat.le_trans z2842 (Nat.le_of_eq g2846.symm)
      have sz2855 : h0.size ≤ b2846 := Nat.le_trans K2843.1 (Nat.le_of_eq g2846.symm)
      have f2856 := f2828.ext E2846
      have f2857 := f2829.ext E2846
      have f2858 := f2830.ext E2846
      have f2859 := f2831.ext E2846
      have f2860 := f2832.ext E2846
      have f2861 := f2833.ext E2846
      have f2862 := f2834.ext E2846
      have f2863 := f2835.ext E2846
      have f2864 := f2836.ext E2846
      have f2865 := f2837.ext E2846
      have f2866 := f2838.ext E2846
      have f2867 := f2839.ext E2846
      have f2868 := f2840.ext E2846
      have f2869 := fk2826.ext E2846
      have z2870 := Nat.le_trans z2842 E2846.1
      have K2871 := K2843.ext E2846
      have f2872 : Fld Z h2846 b2846 "com/example/prizepath/prizepath/Insertions$Insertion" "customer" "I" (.int (0 : Int32)) := D2846 (Or.inr (own_hw hw 66 rfl)) (ty := .int) (by decide)
      have f2873 : Fld Z h2846 b2846 "com/example/prizepath/prizepath/Insertions$Insertion" "route" "I" (.int (0 : Int32)) := D2846 (Or.inr (own_hw hw 68 rfl)) (ty := .int) (by decide)
      have f2874 : Fld Z h2846 b2846 "com/example/prizepath/prizepath/Insertions$Insertion" "place" "I" (.int (0 : Int32)) := D2846 (Or.inr (own_hw hw 70 rfl)) (ty := .int) (by decide)
      refine own_dup X2846 hx 126 rfl (hb hby own_d7_125) rfl ?_
      refine own_aloadN X2846 hx 127 rfl (hb hby own_d7_126) rfl rfl ?_
      refine own_getF X2846 hx hZ (host := "") hown (Or.inl (own_hw hw 10 rfl)) Via.refl e2846 f2857 130 rfl (hb hby own_d7_127) fun T2875 X2875 e2875 => ?_
      refine own_iloadN X2875 hx 131 rfl (hb hby own_d7_130) rfl ?_
      refine own_ldI X2875 hx hZ e2875 f2861 ⟨by decide, by decide⟩ c1 rfl 132 rfl (hb hby own_d7_131) ?_
      refine own_aloadN X2875 hx 133 rfl (hb hby own_d7_132) rfl rfl ?_
      refine own_getF X2875 hx hZ (host := "") hown (Or.inl (own_hw hw 12 rfl)) Via.refl e2875 f2858 136 rfl (hb hby own_d7_133) fun T2876 X2876 e2876 => ?_
      refine own_iloadN X2876 hx 137 rfl (hb hby own_d7_136) rfl ?_
      refine own_ldI X2876 hx hZ e2876 f2862 ⟨by decide, by decide⟩ r1 rfl 138 rfl (hb hby own_d7_137) ?_
      refine own_aloadN X2876 hx 139 rfl (hb hby own_d7_138) rfl rfl ?_
      refine own_getF X2876 hx hZ (host := "") hown (Or.inl (own_hw hw 14 rfl)) Via.refl e2876 f2859 142 rfl (hb hby own_d7_139) fun T2877 X2877 e2877 => ?_
      refine own_iloadN X2877 hx 143 rfl (hb hby own_d7_142) rfl ?_
      refine own_ldI X2877 hx hZ e2877 f2863 ⟨by decide, by decide⟩ p1 rfl 144 rfl (hb hby own_d7_143) ?_
      refine own_special X2877 hx hZ (y := (⟨"com/example/prizepath/prizepath/Insertions$Insertion", "<init>", "(III)V"⟩ : MethodName)) hown rfl (own_hw hw 56 rfl) (own_hw hw 57 rfl) (a := b2846) (by decide) rfl (rm_ins l Z a0 hw [] b2846 c1 r1 p1 h2846 n0 z2870 A2846 f2872 f2873 f2874 ge2854) (own_hw hw 58 rfl) (own_hw hw 55 rfl) (by decide) e2877 (by rw [hml]; rfl) [(.int c1), (.int r1), (.int p1)] 1 (by decide) (Nat.le_of_eq rfl) (by decide) (by decide) (lenOf own_pd8 rfl) rfl rfl 147 rfl (hb hby own_d7_144) fun v2878 T2878 Lc2878 X2878 hQ2878 => ?_
      obtain ⟨rfl, Nq2878, Kq2878, f2879, f2880, f2881, f2882⟩ := hQ2878
      have N2883 := Fr.app N2827 Nq2878
      have f2884 := f2856.keep Kq2878
      have f2885 := f2857.keep Kq2878 (ninS ne2847 nin0)
      have f2886 := f2858.keep Kq2878 (ninS ne2847 nin0)
      have f2887 := f2859.keep Kq2878 (ninS ne2847 nin0)
      have f2888 := f2860.keep Kq2878 (ninS ne2847 nin0)
      have f2889 := f2861.keep Kq2878 (ninS ne2848 nin0)
      have f2890 := f2862.keep Kq2878 (ninS ne2849 nin0)
      have f2891 := f2863.keep Kq2878 (ninS ne2850 nin0)
      have f2892 := f2864.keep Kq2878 (ninS ne2851 nin0)
      have f2893 := f2865.keep Kq2878 (ninS ne2852 nin0)
      have f2894 := f2866.keep Kq2878 (ninS ne2847 nin0)
      have f2895 := f2867.keep Kq2878
      have f2896 := f2868.keep Kq2878 (ninS ne2847 nin0)
      have f2897 := f2869.keep Kq2878 (ninS ne2853 nin0)
      have f2898 := A2846.keep Kq2878
      have z2902 := Nat.le_trans z2870 Kq2878.1
      have K2903 := K2871.trans Kq2878 (allS (Or.inr sz2855) all0)
      show own_Go _ _ _ _ _ (State.setTop _ (mkF _ 147 _ [(.ref b2846)]))
      refine own_astore X2878 hx 149 rfl (hb hby own_d7_147) rfl #[.val (.ref o), .val (.int (2 : Int32)), .val (.int (3 : Int32)), .val (.int (1 : Int32)), .val (.ref b2846)] rfl ?_
      refine own_aloadN X2878 hx 150 rfl (hb hby own_d7_149) rfl rfl ?_
      refine own_iloadN X2878 hx 151 rfl (hb hby own_d7_150) rfl ?_
      refine own_private X2878 hx hZ (y := (⟨"com/example/prizepath/prizepath/Insertions", "moveLastTo", "(I)V"⟩ : MethodName)) (z := (⟨"com/example/prizepath/prizepath/Insertions", "clear", "()V"⟩ : MethodName)) hown (own_hw hw 71 rfl) (own_hw hw 72 rfl) rfl (own_hw hw 24 rfl) (own_hw hw 73 rfl) (a := o) f2884 (by decide) (rm_mv31 l Z a0 hw [] o a1 a2 a3 a4 k1 k2 k3 k4 c0 c1 c2 r0 r1 r2 p0 p1 p2 d0 d1 d2 T2878.heap n0 z2902 f2884 f2885 f2886 f2887 f2888 f2889 f2890 f2891 f2892 f2894 g_o g_a1 g_a2 g_a3 g_a4 n_oa1 n_oa2 n_oa3 n_oa4 n_a1a2 n_a1a3 n_a1a4 n_a2a3 n_a2a4 n_a3a4) (own_hw hw 74 rfl) (own_hw hw 2 rfl) (by decide) rfl (by rw [hml]; rfl) [(.int (1 : Int32))] 0 (by decide) (Nat.le_of_eq rfl) (by decide) (by decide) (lenOf own_pd7 rfl) rfl rfl 154 rfl (hb hby own_d7_151) fun v2904 T2904 Lc2904 X2904 hQ2904 => ?_
      obtain ⟨rfl, Nq2904, Kq2904, f2905⟩ := hQ2904
      have N2906 := Fr.app N2883 Nq2904
      have f2907 := f2884.keep Kq2904
      have f2916 := f2893.keep Kq2904 (ninS (Ne.symm n_oa5) (ninS (Ne.symm n_a1a5) (ninS (Ne.symm n_a2a5) (ninS (Ne.symm n_a3a5) (ninS (Ne.symm n_a4a5) nin0)))))
      have f2918 := f2895.keep Kq2904
      have f2920 := f2897.keep Kq2904 (ninS (Ne.symm ne2501) (ninS (Ne.symm ne2502) (ninS (Ne.symm ne2503) (ninS (Ne.symm ne2504) (ninS (Ne.symm ne2505) nin0)))))
      have f2921 := f2879.keep Kq2904
      have f2922 := f2880.keep Kq2904 (ninS (Ne.symm ne2847) (ninS (Ne.symm ne2848) (ninS (Ne.symm ne2849) (ninS (Ne.symm ne2850) (ninS (Ne.symm ne2851) nin0)))))
      have f2923 := f2881.keep Kq2904 (ninS (Ne.symm ne2847) (ninS (Ne.symm ne2848) (ninS (Ne.symm ne2849) (ninS (Ne.symm ne2850) (ninS (Ne.symm ne2851) nin0)))))
      have f2924 := f2882.keep Kq2904 (ninS (Ne.symm ne2847) (ninS (Ne.symm ne2848) (ninS (Ne.symm ne2849) (ninS (Ne.symm ne2850) (ninS (Ne.symm ne2851) nin0)))))
      have z2925 := Nat.le_trans z2902 Kq2904.1
      have K2926 := K2903.trans Kq2904 (allS (Or.inl (List.mem_of_getElem? (i := 0) rfl)) (allS (Or.inl (List.mem_of_getElem? (i := 1) rfl)) (allS (Or.inl (List.mem_of_getElem? (i := 2) rfl)) (allS (Or.inl (List.mem_of_getElem? (i := 3) rfl)) (allS (Or.inl (List.mem_of_getElem? (i := 4) rfl)) all0)))))
      show own_Go _ _ _ _ _ (State.setTop _ (mkF _ 154 _ []))
      refine own_aload X2904 hx 156 rfl (hb hby own_d7_154) rfl rfl ?_
      refine own_ret X2904 (some (.ref b2846)) (fun h => by rw [Bd.returns] at h; cases h) Bd.notSynchronized (by decide) (by decide) ?_ (fun fs hr => own_retR X2904 hx Bd.returns rfl rfl (hb hby own_d7_156) hr)
      show Q_rm_take32 Z o a1 a2 a3 a4 a5 k1 k2 k3 k4 k5 c0 c1 c2 r0 r1 r2 p0 p1 p2 d0 d1 d2 h0 n0 _ T2904.heap _
      exact ⟨_, rfl, N2906, K2926, f2905⟩
    ·
      show own_Go _ _ _ _ _ (State.setTop _ (mkF _ 77 #[.val (.ref o), .val (.int (2 : Int32)), .val (.int (2 : Int32)), .val (.int (2 : Int32)), .unset] []))
      refine own_iinc X2826 hx 80 rfl (hb hby own_d7_77) rfl #[.val (.ref o), .val (.int (2 : Int32)), .val (.int (3 : Int32)), .val (.int (2 : Int32)), .unset] rfl ?_
      refine own_goto X2826 hx 109 (hb hby own_d7_80) (by decide) rfl ?_
      refine own_iinc X2826 hx 112 rfl (hb hby own_d7_109) rfl #[.val (.ref o), .val (.int (2 : Int32)), .val (.int (3 : Int32)), .val (.int (3 : Int32)), .unset] rfl ?_
      refine own_goto X2826 hx 52 (hb hby own_d7_112) (by decide) rfl ?_
      refine own_iloadN X2826 hx 53 rfl (hb hby own_d7_52) rfl ?_
      refine own_aloadN X2826 hx 54 rfl (hb hby own_d7_53) rfl rfl ?_
      refine own_getF X2826 hx hZ (host := "") hown (Or.inl (own_hw hw 26 rfl)) Via.refl rfl f2838 57 rfl (hb hby own_d7_54) fun T2927 X2927 e2927 => ?_
      refine own_icmpYes X2927 hx 115 (hb hby own_d7_57) (by decide) (by decide) rfl ?_
      refine own_aloadN X2927 hx 116 rfl (hb hby own_d7_115) rfl rfl ?_
      refine own_getF X2927 hx hZ (host := "") hown (Or.inl (own_hw hw 19 rfl)) Via.refl e2927 f2840 119 rfl (hb hby own_d7_116) fun T2928 X2928 e2928 => ?_
      refine own_iconst X2928 hx 120 rfl (hb hby own_d7_119) (0 : Int32) rfl ?_
      refine own_ldI X2928 hx hZ e2928 fk2826 ⟨by decide, by decide⟩ (2 : Int32) rfl 121 rfl (hb hby own_d7_120) ?_
      refine own_istoreN X2928 hx 122 rfl (hb hby own_d7_121) #[.val (.ref o), .val (.int (2 : Int32)), .val (.int (3 : Int32)), .val (.int (2 : Int32)), .unset] rfl ?_
      refine own_new X2928 hx hZ hown (own_hw hw 53 rfl) (own_hw hw 54 rfl) (own_hw hw 55 rfl) e2928 125 rfl (hb hby own_d7_122) (by decide) (by decide) fun T2929 h2929 b2929 g2929 X2929 e2929 E2929 A2929 D2929 => ?_
      have ne2930 : o ≠ b2929 := Nat.ne_of_lt (Nat.lt_of_lt_of_le f2828.lt (Nat.le_of_eq g2929.symm))
      have ne2931 : a1 ≠ b2929 := Nat.ne_of_lt (Nat.lt_of_lt_of_le f2833.lt (Nat.le_of_eq g2929.symm))
      have ne2932 : a2 ≠ b2929 := Nat.ne_of_lt (Nat.lt_of_lt_of_le f2834.lt (Nat.le_of_eq g2929.symm))
      have ne2933 : a3 ≠ b2929 := Nat.ne_of_lt (Nat.lt_of_lt_of_le f2835.lt (Nat.le_of_eq g2929.symm))
      have ne2934 : a4 ≠ b2929 := Nat.ne_of_lt (Nat.lt_of_lt_of_le f2836.lt (Nat.le_of_eq g2929.symm))
      have ne2935 : a5 ≠ b2929 := Nat.ne_of_lt (Nat.lt_of_lt_of_le f2837.lt (Nat.le_of_eq g2929.symm))
      have ne2936 : b2500 ≠ b2929 := Nat.ne_of_lt (Nat.lt_of_lt_of_le f2839.lt (Nat.le_of_eq g2929.symm))
      have ge2937 : n0 ≤ b2929 := Nat.le_trans z2842 (Nat.le_of_eq g2929.symm)
      have sz2938 : h0.size ≤ b2929 := Nat.le_trans K2843.1 (Nat.le_of_eq g2929.symm)
      have f2939 := f2828.ext E2929
      have f2940 := f2829.ext E2929
      have f2941 := f2830.ext E2929
      have f2942 := f2831.ext E2929
      have f2943 := f2832.ext E2929
      have f2944 := f2833.ext E2929
      have f2945 := f2834.ext E2929
      have f2946 := f2835.ext E2929
      have f2947 := f2836.ext E2929
      have f2948 := f2837.ext E2929
      have f2949 := f2838.ext E2929
      have f2950 := f2839.ext E2929
      have f2951 := f2840.ext E2929
      have f2952 := fk2826.ext E2929
      have z2953 := Nat.le_trans z2842 E2929.1
      have K2954 := K2843.ext E2929
      have f2955 : Fld Z h2929 b2929 "com/example/prizepath/prizepath/Insertions$Insertion" "customer" "I" (.int (0 : Int32)) := D2929 (Or.inr (own_hw hw 66 rfl)) (ty := .int) (by decide)
      have f2956 : Fld Z h2929 b2929 "com/example/prizepath/prizepath/Insertions$Insertion" "route" "I" (.int (0 : Int32)) := D2929 (Or.inr (own_hw hw 68 rfl)) (ty := .int) (by decide)
      have f2957 : Fld Z h2929 b2929 "com/example/prizepath/prizepath/Insertions$Insertion" "place" "I" (.int (0 : Int32)) := D2929 (Or.inr (own_hw hw 70 rfl)) (ty := .int) (by decide)
      refine own_dup X2929 hx 126 rfl (hb hby own_d7_125) rfl ?_
      refine own_aloadN X2929 hx 127 rfl (hb hby own_d7_126) rfl rfl ?_
      refine own_getF X2929 hx hZ (host := "") hown (Or.inl (own_hw hw 10 rfl)) Via.refl e2929 f2940 130 rfl (hb hby own_d7_127) fun T2958 X2958 e2958 => ?_
      refine own_iloadN X2958 hx 131 rfl (hb hby own_d7_130) rfl ?_
      refine own_ldI X2958 hx hZ e2958 f2944 ⟨by decide, by decide⟩ c2 rfl 132 rfl (hb hby own_d7_131) ?_
      refine own_aloadN X2958 hx 133 rfl (hb hby own_d7_132) rfl rfl ?_
      refine own_getF X2958 hx hZ (host := "") hown (Or.inl (own_hw hw 12 rfl)) Via.refl e2958 f2941 136 rfl (hb hby own_d7_133) fun T2959 X2959 e2959 => ?_
      refine own_iloadN X2959 hx 137 rfl (hb hby own_d7_136) rfl ?_
      refine own_ldI X2959 hx hZ e2959 f2945 ⟨by decide, by decide⟩ r2 rfl 138 rfl (hb hby own_d7_137) ?_
      refine own_aloadN X2959 hx 139 rfl (hb hby own_d7_138) rfl rfl ?_
      refine own_getF X2959 hx hZ (host := "") hown (Or.inl (own_hw hw 14 rfl)) Via.refl e2959 f2942 142 rfl (hb hby own_d7_139) fun T2960 X2960 e2960 => ?_
      refine own_iloadN X2960 hx 143 rfl (hb hby own_d7_142) rfl ?_
      refine own_ldI X2960 hx hZ e2960 f2946 ⟨by decide, by decide⟩ p2 rfl 144 rfl (hb hby own_d7_143) ?_
      refine own_special X2960 hx hZ (y := (⟨"com/example/prizepath/prizepath/Insertions$Insertion", "<init>", "(III)V"⟩ : MethodName)) hown rfl (own_hw hw 56 rfl) (own_hw hw 57 rfl) (a := b2929) (by decide) rfl (rm_ins l Z a0 hw [] b2929 c2 r2 p2 h2929 n0 z2953 A2929 f2955 f2956 f2957 ge2937) (own_hw hw 58 rfl) (own_hw hw 55 rfl) (by decide) e2960 (by rw [hml]; rfl) [(.int c2), (.int r2), (.int p2)] 1 (by decide) (Nat.le_of_eq rfl) (by decide) (by decide) (lenOf own_pd8 rfl) rfl rfl 147 rfl (hb hby own_d7_144) fun v2961 T2961 Lc2961 X2961 hQ2961 => ?_
      obtain ⟨rfl, Nq2961, Kq2961, f2962, f2963, f2964, f2965⟩ := hQ2961
      have N2966 := Fr.app N2827 Nq2961
      have f2967 := f2939.keep Kq2961
      have f2968 := f2940.keep Kq2961 (ninS ne2930 nin0)
      have f2969 := f2941.keep Kq2961 (ninS ne2930 nin0)
      have f2970 := f2942.keep Kq2961 (ninS ne2930 nin0)
      have f2971 := f2943.keep Kq2961 (ninS ne2930 nin0)
      have f2972 := f2944.keep Kq2961 (ninS ne2931 nin0)
      have f2973 := f2945.keep Kq2961 (ninS ne2932 nin0)
      have f2974 := f2946.keep Kq2961 (ninS ne2933 nin0)
      have f2975 := f2947.keep Kq2961 (ninS ne2934 nin0)
      have f2976 := f2948.keep Kq2961 (ninS ne2935 nin0)
      have f2977 := f2949.keep Kq2961 (ninS ne2930 nin0)
      have f2978 := f2950.keep Kq2961
      have f2979 := f2951.keep Kq2961 (ninS ne2930 nin0)
      have f2980 := f2952.keep Kq2961 (ninS ne2936 nin0)
      have f2981 := A2929.keep Kq2961
      have z2985 := Nat.le_trans z2953 Kq2961.1
      have K2986 := K2954.trans Kq2961 (allS (Or.inr sz2938) all0)
      show own_Go _ _ _ _ _ (State.setTop _ (mkF _ 147 _ [(.ref b2929)]))
      refine own_astore X2961 hx 149 rfl (hb hby own_d7_147) rfl #[.val (.ref o), .val (.int (2 : Int32)), .val (.int (3 : Int32)), .val (.int (2 : Int32)), .val (.ref b2929)] rfl ?_
      refine own_aloadN X2961 hx 150 rfl (hb hby own_d7_149) rfl rfl ?_
      refine own_iloadN X2961 hx 151 rfl (hb hby own_d7_150) rfl ?_
      refine own_private X2961 hx hZ (y := (⟨"com/example/prizepath/prizepath/Insertions", "moveLastTo", "(I)V"⟩ : MethodName)) (z := (⟨"com/example/prizepath/prizepath/Insertions", "clear", "()V"⟩ : MethodName)) hown (own_hw hw 71 rfl) (own_hw hw 72 rfl) rfl (own_hw hw 24 rfl) (own_hw hw 73 rfl) (a := o) f2967 (by decide) (rm_mv32 l Z a0 hw [] o a1 a2 a3 a4 k1 k2 k3 k4 c0 c1 c2 r0 r1 r2 p0 p1 p2 d0 d1 d2 T2961.heap n0 z2985 f2967 f2968 f2969 f2970 f2971 f2972 f2973 f2974 f2975 f2977 g_o g_a1 g_a2 g_a3 g_a4 n_oa1 n_oa2 n_oa3 n_oa4 n_a1a2 n_a1a3 n_a1a4 n_a2a3 n_a2a4 n_a3a4) (own_hw hw 74 rfl) (own_hw hw 2 rfl) (by decide) rfl (by rw [hml]; rfl) [(.int (2 : Int32))] 0 (by decide) (Nat.le_of_eq rfl) (by decide) (by decide) (lenOf own_pd7 rfl) rfl rfl 154 rfl (hb hby own_d7_151) fun v2987 T2987 Lc2987 X2987 hQ2987 => ?_
      obtain ⟨rfl, Nq2987, Kq2987, f2988⟩ := hQ2987
      have N2989 := Fr.app N2966 Nq2987
      have f2990 := f2967.keep Kq2987
      have f2999 := f2976.keep Kq2987 (ninS (Ne.symm n_oa5) (ninS (Ne.symm n_a1a5) (ninS (Ne.symm n_a2a5) (ninS (Ne.symm n_a3a5) (ninS (Ne.symm n_a4a5) nin0)))))
      have f3001 := f2978.keep Kq2987
      have f3003 := f2980.keep Kq2987 (ninS (Ne.symm ne2501) (ninS (Ne.symm ne2502) (ninS (Ne.symm ne2503) (ninS (Ne.symm ne2504) (ninS (Ne.symm ne2505) nin0)))))
      have f3004 := f2962.keep Kq2987
      have f3005 := f2963.keep Kq2987 (ninS (Ne.symm ne2930) (ninS (Ne.symm ne2931) (ninS (Ne.symm ne2932) (ninS (Ne.symm ne2933) (ninS (Ne.symm ne2934) nin0)))))
      have f3006 := f2964.keep Kq2987 (ninS (Ne.symm ne2930) (ninS (Ne.symm ne2931) (ninS (Ne.symm ne2932) (ninS (Ne.symm ne2933) (ninS (Ne.symm ne2934) nin0)))))
      have f3007 := f2965.keep Kq2987 (ninS (Ne.symm ne2930) (ninS (Ne.symm ne2931) (ninS (Ne.symm ne2932) (ninS (Ne.symm ne2933) (ninS (Ne.symm ne2934) nin0)))))
      have z3008 := Nat.le_trans z2985 Kq2987.1
      have K3009 := K2986.trans Kq2987 (allS (Or.inl (List.mem_of_getElem? (i := 0) rfl)) (allS (Or.inl (List.mem_of_getElem? (i := 1) rfl)) (allS (Or.inl (List.mem_of_getElem? (i := 2) rfl)) (allS (Or.inl (List.mem_of_getElem? (i := 3) rfl)) (allS (Or.inl (List.mem_of_getElem? (i := 4) rfl)) all0)))))
      show own_Go _ _ _ _ _ (State.setTop _ (mkF _ 154 _ []))
      refine own_aload X2987 hx 156 rfl (hb hby own_d7_154) rfl rfl ?_
      refine own_ret X2987 (some (.ref b2929)) (fun h => by rw [Bd.returns] at h; cases h) Bd.notSynchronized (by decide) (by decide) ?_ (fun fs hr => own_retR X2987 hx Bd.returns rfl rfl (hb hby own_d7_156) hr)
      show Q_rm_take32 Z o a1 a2 a3 a4 a5 k1 k2 k3 k4 k5 c0 c1 c2 r0 r1 r2 p0 p1 p2 d0 d1 d2 h0 n0 _ T2987.heap _
      exact ⟨_, rfl, N2989, K3009, f2988⟩
theorem own_ef_rm_add0 (m : MethodId) (o : Addr) (x : Int32) (y : Int32) (z : Int32) (u : UInt64) : entryFrame m #[(.ref o), (.int x), (.int y), (.int z), (.double u)] 7 = mkF m 0 #[.val (.ref o), .val (.int x), .val (.int y), .val (.int z), .val (.double u), .second, .unset] [] := by first | (simp [entryFrame, mkF, argsToLocals, Value.category]; done) | rfl
def Q_rm_add0 (Z : State) (o : Addr) (x : Int32) (y : Int32) (z : Int32) (u : UInt64) (a1 : Addr) (a2 : Addr) (a3 : Addr) (a4 : Addr) (a5 : Addr) (k1 : ClassId) (k2 : ClassId) (k3 : ClassId) (k4 : ClassId) (c0 : Int32) (c1 : Int32) (c2 : Int32) (r0 : Int32) (r1 : Int32) (r2 : Int32) (p0 : Int32) (p1 : Int32) (p2 : Int32) (d0 : UInt64) (d1 : UInt64) (d2 : UInt64) (h0 : Heap) (n0 : Nat) (v : Option Value) (h : Heap) (L : List Loc) : Prop := v = none ∧ Fr n0 L ∧ Keep h0 h [o, a1, a2, a3, a4] ∧ Arv Z h a1 k1 .int (256 : Int32) [(.int x), (.int c1), (.int c2)] (.int (0 : Int32)) ∧ Arv Z h a2 k2 .int (256 : Int32) [(.int y), (.int r1), (.int r2)] (.int (0 : Int32)) ∧ Arv Z h a3 k3 .int (256 : Int32) [(.int z), (.int p1), (.int p2)] (.int (0 : Int32)) ∧ Arv Z h a4 k4 .double (256 : Int32) [(.double u), (.double d1), (.double d2)] (.double (0 : UInt64)) ∧ Fld Z h o "com/example/prizepath/prizepath/Insertions" "customers" "[I" (.ref a1) ∧ Fld Z h o "com/example/prizepath/prizepath/Insertions" "routes" "[I" (.ref a2) ∧ Fld Z h o "com/example/prizepath/prizepath/Insertions" "places" "[I" (.ref a3) ∧ Fld Z h o "com/example/prizepath/prizepath/Insertions" "ranks" "[D" (.ref a4) ∧ Fld Z h o "com/example/prizepath/prizepath/Insertions" "kept" "[I" (.ref a5) ∧ Fld Z h o "com/example/prizepath/prizepath/Insertions" "size" "I" (.int (1 : Int32))
theorem own_d6_0 : decode prog_15_method_5_code 0 = .ok (.aload_n 0, 1) := by decide +kernel
theorem own_d6_1 : decode prog_15_method_5_code 1 = .ok (.getfield 28, 3) := by decide +kernel
theorem own_d6_4 : decode prog_15_method_5_code 4 = .ok (.aload_n 0, 1) := by decide +kernel
theorem own_d6_5 : decode prog_15_method_5_code 5 = .ok (.getfield 11, 3) := by decide +kernel
theorem own_d6_8 : decode prog_15_method_5_code 8 = .ok (.arraylength, 1) := by decide +kernel
theorem own_d6_9 : decode prog_15_method_5_code 9 = .ok (.if_icmp .ne 63, 3) := by decide +kernel
theorem own_d6_72 : decode prog_15_method_5_code 72 = .ok (.aload_n 0, 1) := by decide +kernel
theorem own_d6_73 : decode prog_15_method_5_code 73 = .ok (.getfield 11, 3) := by decide +kernel
theorem own_d6_76 : decode prog_15_method_5_code 76 = .ok (.aload_n 0, 1) := by decide +kernel
theorem own_d6_77 : decode prog_15_method_5_code 77 = .ok (.getfield 28, 3) := by decide +kernel
theorem own_d6_80 : decode prog_15_method_5_code 80 = .ok (.iload_n 1, 1) := by decide +kernel
theorem own_d6_81 : decode prog_15_method_5_code 81 = .ok (.iastore, 1) := by decide +kernel
theorem own_d6_82 : decode prog_15_method_5_code 82 = .ok (.aload_n 0, 1) := by decide +kernel
theorem own_d6_83 : decode prog_15_method_5_code 83 = .ok (.getfield 15, 3) := by decide +kernel
theorem own_d6_86 : decode prog_15_method_5_code 86 = .ok (.aload_n 0, 1) := by decide +kernel
theorem own_d6_87 : decode prog_15_method_5_code 87 = .ok (.getfield 28, 3) := by decide +kernel
theorem own_d6_90 : decode prog_15_method_5_code 90 = .ok (.iload_n 2, 1) := by decide +kernel
theorem own_d6_91 : decode prog_15_method_5_code 91 = .ok (.iastore, 1) := by decide +kernel
theorem own_d6_92 : decode prog_15_method_5_code 92 = .ok (.aload_n 0, 1) := by decide +kernel
theorem own_d6_93 : decode prog_15_method_5_code 93 = .ok (.getfield 18, 3) := by decide +kernel
theorem own_d6_96 : decode prog_15_method_5_code 96 = .ok (.aload_n 0, 1) := by decide +kernel
theorem own_d6_97 : decode prog_15_method_5_code 97 = .ok (.getfield 28, 3) := by decide +kernel
theorem own_d6_100 : decode prog_15_method_5_code 100 = .ok (.iload_n 3, 1) := by decide +kernel
theorem own_d6_101 : decode prog_15_method_5_code 101 = .ok (.iastore, 1) := by decide +kernel
theorem own_d6_102 : decode prog_15_method_5_code 102 = .ok (.aload_n 0, 1) := by decide +kernel
theorem own_d6_103 : decode prog_15_method_5_code 103 = .ok (.getfield 21, 3) := by decide +kernel
theorem own_d6_106 : decode prog_15_method_5_code 106 = .ok (.aload_n 0, 1) := by decide +kernel
theorem own_d6_107 : decode prog_15_method_5_code 107 = .ok (.getfield 28, 3) := by decide +kernel
theorem own_d6_110 : decode prog_15_method_5_code 110 = .ok (.dload 4, 2) := by decide +kernel
theorem own_d6_112 : decode prog_15_method_5_code 112 = .ok (.dastore, 1) := by decide +kernel
theorem own_d6_113 : decode prog_15_method_5_code 113 = .ok (.aload_n 0, 1) := by decide +kernel
theorem own_d6_114 : decode prog_15_method_5_code 114 = .ok (.dup, 1) := by decide +kernel
theorem own_d6_115 : decode prog_15_method_5_code 115 = .ok (.getfield 28, 3) := by decide +kernel
theorem own_d6_118 : decode prog_15_method_5_code 118 = .ok (.iconst 1, 1) := by decide +kernel
theorem own_d6_119 : decode prog_15_method_5_code 119 = .ok (.iadd, 1) := by decide +kernel
theorem own_d6_120 : decode prog_15_method_5_code 120 = .ok (.putfield 28, 3) := by decide +kernel
theorem own_d6_123 : decode prog_15_method_5_code 123 = .ok (.return_, 1) := by decide +kernel
set_option maxRecDepth 65536 in
set_option maxHeartbeats 40000000 in
theorem rm_add0 (l : Launch) (Z : State) (a0 : Array Value) (hw : ∀ d ∈ tables_1, d.before a0 Z = true) (ws : List Jvm.Cond) (o : Addr) (x : Int32) (y : Int32) (z : Int32) (u : UInt64) (a1 : Addr) (a2 : Addr) (a3 : Addr) (a4 : Addr) (a5 : Addr) (k1 : ClassId) (k2 : ClassId) (k3 : ClassId) (k4 : ClassId) (c0 : Int32) (c1 : Int32) (c2 : Int32) (r0 : Int32) (r1 : Int32) (r2 : Int32) (p0 : Int32) (p1 : Int32) (p2 : Int32) (d0 : UInt64) (d1 : UInt64) (d2 : UInt64) (h0 : Heap) (n0 : Nat) (Z0 : n0 ≤ h0.size) (E0 : Exa Z h0 o "com/example/prizepath/prizepath/Insertions") (F1 : Fld Z h0 o "com/example/prizepath/prizepath/Insertions" "customers" "[I" (.ref a1)) (F2 : Fld Z h0 o "com/example/prizepath/prizepath/Insertions" "routes" "[I" (.ref a2)) (F3 : Fld Z h0 o "com/example/prizepath/prizepath/Insertions" "places" "[I" (.ref a3)) (F4 : Fld Z h0 o "com/example/prizepath/prizepath/Insertions" "ranks" "[D" (.ref a4)) (F5 : Fld Z h0 o "com/example/prizepath/prizepath/Insertions" "kept" "[I" (.ref a5)) (A1 : Arv Z h0 a1 k1 .int (256 : Int32) [(.int c0), (.int c1), (.int c2)] (.int (0 : Int32))) (A2 : Arv Z h0 a2 k2 .int (256 : Int32) [(.int r0), (.int r1), (.int r2)] (.int (0 : Int32))) (A3 : Arv Z h0 a3 k3 .int (256 : Int32) [(.int p0), (.int p1), (.int p2)] (.int (0 : Int32))) (A4 : Arv Z h0 a4 k4 .double (256 : Int32) [(.double d0), (.double d1), (.double d2)] (.double (0 : UInt64))) (FZ : Fld Z h0 o "com/example/prizepath/prizepath/Insertions" "size" "I" (.int (0 : Int32))) (g_o : n0 ≤ o) (g_a1 : n0 ≤ a1) (g_a2 : n0 ≤ a2) (g_a3 : n0 ≤ a3) (g_a4 : n0 ≤ a4) (n_oa1 : o ≠ a1) (n_oa2 : o ≠ a2) (n_oa3 : o ≠ a3) (n_oa4 : o ≠ a4) (n_a1a2 : a1 ≠ a2) (n_a1a3 : a1 ≠ a3) (n_a1a4 : a1 ≠ a4) (n_a2a3 : a2 ≠ a3) (n_a2a4 : a2 ≠ a4) (n_a3a4 : a3 ≠ a4) :
    MetFree l (⟨"com/example/prizepath/prizepath/Insertions", "add", "(IIID)V"⟩ : MethodName) (head1 (Jvm.Cond.code (⟨"com/example/prizepath/prizepath/Insertions", "add", "(IIID)V"⟩ : MethodName) prog_15_method_5_code 7 none :: ws) ({ frames := 0, cells := 0, slots := 0, locals := 0 } : Room)) (fun aa U => aa = #[(.ref o), (.int x), (.int y), (.int z), (.double u)] ∧ Z.Warmed39 U.vm ∧ U.heap = h0) (fun _ _ _ _ _ => True) (fun _ U ou U' => ∃ v L, ou = .returned v ∧ Q_rm_add0 Z o x y z u a1 a2 a3 a4 a5 k1 k2 k3 k4 c0 c1 c2 r0 r1 r2 p0 p1 p2 d0 d1 d2 h0 n0 v U'.heap L ∧ FrameEnd U ou U' L ({ frames := 0, cells := 0, slots := 0, locals := 0 } : Room).cells ({ frames := 0, cells := 0, slots := 0, locals := 0 } : Room).slots) := by
  refine MetFree.of_bodySF (plainFor_of_name own_pn2) hisR ?_
  intro p e s m args below meth c s₁ Bd hml0 hP hK
  obtain ⟨rfl, hZ, hh⟩ := hP
  have hx := Bd.exec
  have hby := Bd.bytes
  have hml : c.maxLocals = 7 := hml0
  have hown : s.vm.findClass "com/example/prizepath/prizepath/Insertions" = some m.cls := findClass_of_methodNamed Bd.named
  have hnm := (name_of_methodNamed Bd.named Bd.method).1
  have X0 : Stand p l e ({ frames := 0, cells := 0, slots := 0, locals := 0 } : Room) s m #[(.ref o), (.int x), (.int y), (.int z), (.double u)] below meth c s₁ [] 0 0 := Stand.of_body Bd
  have e0 : s₁.heap = h0 := by rw [← hh, Bd.state]; rfl
  have N0 := Fr.nil n0
  have K0 := Keep.refl h0 [o, a1, a2, a3, a4]
  show own_Go p e below (fun o u L => FrameEnd s o u L ({ frames := 0, cells := 0, slots := 0, locals := 0 } : Room).cells ({ frames := 0, cells := 0, slots := 0, locals := 0 } : Room).slots) (Q_rm_add0 Z o x y z u a1 a2 a3 a4 a5 k1 k2 k3 k4 c0 c1 c2 r0 r1 r2 p0 p1 p2 d0 d1 d2 h0 n0) (s₁.setTop (entryFrame m #[(.ref o), (.int x), (.int y), (.int z), (.double u)] 7))
  rw [own_ef_rm_add0 m o x y z u]
  show own_Go _ _ _ _ _ (State.setTop _ (mkF _ 0 #[.val (.ref o), .val (.int x), .val (.int y), .val (.int z), .val (.double u), .second, .unset] []))
  refine own_aloadN X0 hx 1 rfl (hb hby own_d6_0) rfl rfl ?_
  refine own_getF X0 hx hZ (host := "") hown (Or.inl (own_hw hw 26 rfl)) Via.refl e0 FZ 4 rfl (hb hby own_d6_1) fun T3010 X3010 e3010 => ?_
  refine own_aloadN X3010 hx 5 rfl (hb hby own_d6_4) rfl rfl ?_
  refine own_getF X3010 hx hZ (host := "") hown (Or.inl (own_hw hw 10 rfl)) Via.refl e3010 F1 8 rfl (hb hby own_d6_5) fun T3011 X3011 e3011 => ?_
  refine own_len X3011 hx hZ e3011 A1 9 rfl (hb hby own_d6_8) ?_
  refine own_icmpYes X3011 hx 72 (hb hby own_d6_9) (by decide) (by decide) rfl ?_
  refine own_aloadN X3011 hx 73 rfl (hb hby own_d6_72) rfl rfl ?_
  refine own_getF X3011 hx hZ (host := "") hown (Or.inl (own_hw hw 10 rfl)) Via.refl e3011 F1 76 rfl (hb hby own_d6_73) fun T3012 X3012 e3012 => ?_
  refine own_aloadN X3012 hx 77 rfl (hb hby own_d6_76) rfl rfl ?_
  refine own_getF X3012 hx hZ (host := "") hown (Or.inl (own_hw hw 26 rfl)) Via.refl e3012 FZ 80 rfl (hb hby own_d6_77) fun T3013 X3013 e3013 => ?_
  refine own_iloadN X3013 hx 81 rfl (hb hby own_d6_80) rfl ?_
  refine own_stI X3013 hx hZ e3013 A1 ⟨by decide, by decide⟩ 0 rfl (Nat.le_of_ble_eq_true rfl) [(.int x), (.int c1), (.int c2)] rfl 82 rfl (hb hby own_d6_81) fun T3014 h3014 X3014 e3014 W3014 f3015 => ?_
  have f3016 := E0.wr W3014
  have f3017 := F1.other W3014 (Or.inl n_oa1)
  have f3018 := F2.other W3014 (Or.inl n_oa1)
  have f3019 := F3.other W3014 (Or.inl n_oa1)
  have f3020 := F4.other W3014 (Or.inl n_oa1)
  have f3021 := F5.other W3014 (Or.inl n_oa1)
  have f3022 := A2.other W3014 (Ne.symm n_a1a2)
  have f3023 := A3.other W3014 (Ne.symm n_a1a3)
  have f3024 := A4.other W3014 (Ne.symm n_a1a4)
  have f3025 := FZ.other W3014 (Or.inl n_oa1)
  have z3026 := Nat.le_trans Z0 (Keep.of_wr W3014).1
  have K3027 := K0.wr W3014 (Or.inl (List.mem_of_getElem? (i := 1) rfl))
  have N3028 := Fr.snoc X3014 N0 g_a1
  refine own_aloadN X3014 hx 83 rfl (hb hby own_d6_82) rfl rfl ?_
  refine own_getF X3014 hx hZ (host := "") hown (Or.inl (own_hw hw 12 rfl)) Via.refl e3014 f3018 86 rfl (hb hby own_d6_83) fun T3029 X3029 e3029 => ?_
  refine own_aloadN X3029 hx 87 rfl (hb hby own_d6_86) rfl rfl ?_
  refine own_getF X3029 hx hZ (host := "") hown (Or.inl (own_hw hw 26 rfl)) Via.refl e3029 f3025 90 rfl (hb hby own_d6_87) fun T3030 X3030 e3030 => ?_
  refine own_iloadN X3030 hx 91 rfl (hb hby own_d6_90) rfl ?_
  refine own_stI X3030 hx hZ e3030 f3022 ⟨by decide, by decide⟩ 0 rfl (Nat.le_of_ble_eq_true rfl) [(.int y), (.int r1), (.int r2)] rfl 92 rfl (hb hby own_d6_91) fun T3031 h3031 X3031 e3031 W3031 f3032 => ?_
  have f3033 := f3016.wr W3031
  have f3034 := f3017.other W3031 (Or.inl n_oa2)
  have f3035 := f3018.other W3031 (Or.inl n_oa2)
  have f3036 := f3019.other W3031 (Or.inl n_oa2)
  have f3037 := f3020.other W3031 (Or.inl n_oa2)
  have f3038 := f3021.other W3031 (Or.inl n_oa2)
  have f3039 := f3023.other W3031 (Ne.symm n_a2a3)
  have f3040 := f3024.other W3031 (Ne.symm n_a2a4)
  have f3041 := f3025.other W3031 (Or.inl n_oa2)
  have f3042 := f3015.other W3031 n_a1a2
  have z3043 := Nat.le_trans z3026 (Keep.of_wr W3031).1
  have K3044 := K3027.wr W3031 (Or.inl (List.mem_of_getElem? (i := 2) rfl))
  have N3045 := Fr.snoc X3031 N3028 g_a2
  refine own_aloadN X3031 hx 93 rfl (hb hby own_d6_92) rfl rfl ?_
  refine own_getF X3031 hx hZ (host := "") hown (Or.inl (own_hw hw 14 rfl)) Via.refl e3031 f3036 96 rfl (hb hby own_d6_93) fun T3046 X3046 e3046 => ?_
  refine own_aloadN X3046 hx 97 rfl (hb hby own_d6_96) rfl rfl ?_
  refine own_getF X3046 hx hZ (host := "") hown (Or.inl (own_hw hw 26 rfl)) Via.refl e3046 f3041 100 rfl (hb hby own_d6_97) fun T3047 X3047 e3047 => ?_
  refine own_iloadN X3047 hx 101 rfl (hb hby own_d6_100) rfl ?_
  refine own_stI X3047 hx hZ e3047 f3039 ⟨by decide, by decide⟩ 0 rfl (Nat.le_of_ble_eq_true rfl) [(.int z), (.int p1), (.int p2)] rfl 102 rfl (hb hby own_d6_101) fun T3048 h3048 X3048 e3048 W3048 f3049 => ?_
  have f3050 := f3033.wr W3048
  have f3051 := f3034.other W3048 (Or.inl n_oa3)
  have f3052 := f3035.other W3048 (Or.inl n_oa3)
  have f3053 := f3036.other W3048 (Or.inl n_oa3)
  have f3054 := f3037.other W3048 (Or.inl n_oa3)
  have f3055 := f3038.other W3048 (Or.inl n_oa3)
  have f3056 := f3040.other W3048 (Ne.symm n_a3a4)
  have f3057 := f3041.other W3048 (Or.inl n_oa3)
  have f3058 := f3042.other W3048 n_a1a3
  have f3059 := f3032.other W3048 n_a2a3
  have z3060 := Nat.le_trans z3043 (Keep.of_wr W3048).1
  have K3061 := K3044.wr W3048 (Or.inl (List.mem_of_getElem? (i := 3) rfl))
  have N3062 := Fr.snoc X3048 N3045 g_a3
  refine own_aloadN X3048 hx 103 rfl (hb hby own_d6_102) rfl rfl ?_
  refine own_getF X3048 hx hZ (host := "") hown (Or.inl (own_hw hw 17 rfl)) Via.refl e3048 f3054 106 rfl (hb hby own_d6_103) fun T3063 X3063 e3063 => ?_
  refine own_aloadN X3063 hx 107 rfl (hb hby own_d6_106) rfl rfl ?_
  refine own_getF X3063 hx hZ (host := "") hown (Or.inl (own_hw hw 26 rfl)) Via.refl e3063 f3057 110 rfl (hb hby own_d6_107) fun T3064 X3064 e3064 => ?_
  refine own_dload X3064 hx 112 rfl (hb hby own_d6_110) rfl ?_
  refine own_stD X3064 hx hZ e3064 f3056 ⟨by decide, by decide⟩ 0 rfl (Nat.le_of_ble_eq_true rfl) [(.double u), (.double d1), (.double d2)] rfl 113 rfl (hb hby own_d6_112) fun T3065 h3065 X3065 e3065 W3065 f3066 => ?_
  have f3067 := f3050.wr W3065
  have f3068 := f3051.other W3065 (Or.inl n_oa4)
  have f3069 := f3052.other W3065 (Or.inl n_oa4)
  have f3070 := f3053.other W3065 (Or.inl n_oa4)
  have f3071 := f3054.other W3065 (Or.inl n_oa4)
  have f3072 := f3055.other W3065 (Or.inl n_oa4)
  have f3073 := f3057.other W3065 (Or.inl n_oa4)
  have f3074 := f3058.other W3065 n_a1a4
  have f3075 := f3059.other W3065 n_a2a4
  have f3076 := f3049.other W3065 n_a3a4
  have z3077 := Nat.le_trans z3060 (Keep.of_wr W3065).1
  have K3078 := K3061.wr W3065 (Or.inl (List.mem_of_getElem? (i := 4) rfl))
  have N3079 := Fr.snoc X3065 N3062 g_a4
  refine own_aloadN X3065 hx 114 rfl (hb hby own_d6_113) rfl rfl ?_
  refine own_dup X3065 hx 115 rfl (hb hby own_d6_114) rfl ?_
  refine own_getF X3065 hx hZ (host := "") hown (Or.inl (own_hw hw 26 rfl)) Via.refl e3065 f3073 118 rfl (hb hby own_d6_115) fun T3080 X3080 e3080 => ?_
  refine own_iconst X3080 hx 119 rfl (hb hby own_d6_118) (1 : Int32) rfl ?_
  refine own_iadd X3080 hx 120 rfl (hb hby own_d6_119) (1 : Int32) rfl ?_
  refine own_putF X3080 hx hZ (host := "") hown (Or.inl (own_hw hw 26 rfl)) Via.refl e3080 f3073 f3067 (Or.inl (own_hw hw 27 rfl)) (own_hw hw 1 rfl) (ty := .int) (by decide) rfl rfl 123 rfl (hb hby own_d6_120) fun T3081 h3081 X3081 e3081 W3081 => ?_
  have f3082 := f3067.wr W3081
  have f3083 := f3068.other W3081 (Or.inr (slot_ne (Or.inl (own_hw hw 11 rfl)) (Or.inl (own_hw hw 27 rfl)) (by decide) (t := (.array .int)) (t' := .int) (by decide) (by decide)))
  have f3084 := f3069.other W3081 (Or.inr (slot_ne (Or.inl (own_hw hw 13 rfl)) (Or.inl (own_hw hw 27 rfl)) (by decide) (t := (.array .int)) (t' := .int) (by decide) (by decide)))
  have f3085 := f3070.other W3081 (Or.inr (slot_ne (Or.inl (own_hw hw 15 rfl)) (Or.inl (own_hw hw 27 rfl)) (by decide) (t := (.array .int)) (t' := .int) (by decide) (by decide)))
  have f3086 := f3071.other W3081 (Or.inr (slot_ne (Or.inl (own_hw hw 18 rfl)) (Or.inl (own_hw hw 27 rfl)) (by decide) (t := (.array .double)) (t' := .int) (by decide) (by decide)))
  have f3087 := f3072.other W3081 (Or.inr (slot_ne (Or.inl (own_hw hw 20 rfl)) (Or.inl (own_hw hw 27 rfl)) (by decide) (t := (.array .int)) (t' := .int) (by decide) (by decide)))
  have f3088 := f3074.other W3081 (Ne.symm n_oa1)
  have f3089 := f3075.other W3081 (Ne.symm n_oa2)
  have f3090 := f3076.other W3081 (Ne.symm n_oa3)
  have f3091 := f3066.other W3081 (Ne.symm n_oa4)
  have z3092 := Nat.le_trans z3077 (Keep.of_wr W3081).1
  have K3093 := K3078.wr W3081 (Or.inl (List.mem_of_getElem? (i := 0) rfl))
  have f3094 := f3073.same W3081
  have N3095 := Fr.snoc X3081 N3079 g_o
  refine own_ret X3081 none (fun _ => rfl) Bd.notSynchronized (by decide) (by decide) ?_ (fun fs hr => X3081.returnOut hx Bd.returns (hb hby own_d6_123) hr)
  show Q_rm_add0 Z o x y z u a1 a2 a3 a4 a5 k1 k2 k3 k4 c0 c1 c2 r0 r1 r2 p0 p1 p2 d0 d1 d2 h0 n0 _ T3081.heap _
  rw [e3081]
  exact ⟨rfl, N3095, K3093, f3088, f3089, f3090, f3091, f3083, f3084, f3085, f3086, f3087, f3094⟩
theorem own_ef_rm_add1 (m : MethodId) (o : Addr) (x : Int32) (y : Int32) (z : Int32) (u : UInt64) : entryFrame m #[(.ref o), (.int x), (.int y), (.int z), (.double u)] 7 = mkF m 0 #[.val (.ref o), .val (.int x), .val (.int y), .val (.int z), .val (.double u), .second, .unset] [] := by first | (simp [entryFrame, mkF, argsToLocals, Value.category]; done) | rfl
def Q_rm_add1 (Z : State) (o : Addr) (x : Int32) (y : Int32) (z : Int32) (u : UInt64) (a1 : Addr) (a2 : Addr) (a3 : Addr) (a4 : Addr) (a5 : Addr) (k1 : ClassId) (k2 : ClassId) (k3 : ClassId) (k4 : ClassId) (c0 : Int32) (c1 : Int32) (c2 : Int32) (r0 : Int32) (r1 : Int32) (r2 : Int32) (p0 : Int32) (p1 : Int32) (p2 : Int32) (d0 : UInt64) (d1 : UInt64) (d2 : UInt64) (h0 : Heap) (n0 : Nat) (v : Option Value) (h : Heap) (L : List Loc) : Prop := v = none ∧ Fr n0 L ∧ Keep h0 h [o, a1, a2, a3, a4] ∧ Arv Z h a1 k1 .int (256 : Int32) [(.int c0), (.int x), (.int c2)] (.int (0 : Int32)) ∧ Arv Z h a2 k2 .int (256 : Int32) [(.int r0), (.int y), (.int r2)] (.int (0 : Int32)) ∧ Arv Z h a3 k3 .int (256 : Int32) [(.int p0), (.int z), (.int p2)] (.int (0 : Int32)) ∧ Arv Z h a4 k4 .double (256 : Int32) [(.double d0), (.double u), (.double d2)] (.double (0 : UInt64)) ∧ Fld Z h o "com/example/prizepath/prizepath/Insertions" "customers" "[I" (.ref a1) ∧ Fld Z h o "com/example/prizepath/prizepath/Insertions" "routes" "[I" (.ref a2) ∧ Fld Z h o "com/example/prizepath/prizepath/Insertions" "places" "[I" (.ref a3) ∧ Fld Z h o "com/example/prizepath/prizepath/Insertions" "ranks" "[D" (.ref a4) ∧ Fld Z h o "com/example/prizepath/prizepath/Insertions" "kept" "[I" (.ref a5) ∧ Fld Z h o "com/example/prizepath/prizepath/Insertions" "size" "I" (.int (2 : Int32))
set_option maxRecDepth 65536 in
set_option maxHeartbeats 40000000 in
theorem rm_add1 (l : Launch) (Z : State) (a0 : Array Value) (hw : ∀ d ∈ tables_1, d.before a0 Z = true) (ws : List Jvm.Cond) (o : Addr) (x : Int32) (y : Int32) (z : Int32) (u : UInt64) (a1 : Addr) (a2 : Addr) (a3 : Addr) (a4 : Addr) (a5 : Addr) (k1 : ClassId) (k2 : ClassId) (k3 : ClassId) (k4 : ClassId) (c0 : Int32) (c1 : Int32) (c2 : Int32) (r0 : Int32) (r1 : Int32) (r2 : Int32) (p0 : Int32) (p1 : Int32) (p2 : Int32) (d0 : UInt64) (d1 : UInt64) (d2 : UInt64) (h0 : Heap) (n0 : Nat) (Z0 : n0 ≤ h0.size) (E0 : Exa Z h0 o "com/example/prizepath/prizepath/Insertions") (F1 : Fld Z h0 o "com/example/prizepath/prizepath/Insertions" "customers" "[I" (.ref a1)) (F2 : Fld Z h0 o "com/example/prizepath/prizepath/Insertions" "routes" "[I" (.ref a2)) (F3 : Fld Z h0 o "com/example/prizepath/prizepath/Insertions" "places" "[I" (.ref a3)) (F4 : Fld Z h0 o "com/example/prizepath/prizepath/Insertions" "ranks" "[D" (.ref a4)) (F5 : Fld Z h0 o "com/example/prizepath/prizepath/Insertions" "kept" "[I" (.ref a5)) (A1 : Arv Z h0 a1 k1 .int (256 : Int32) [(.int c0), (.int c1), (.int c2)] (.int (0 : Int32))) (A2 : Arv Z h0 a2 k2 .int (256 : Int32) [(.int r0), (.int r1), (.int r2)] (.int (0 : Int32))) (A3 : Arv Z h0 a3 k3 .int (256 : Int32) [(.int p0), (.int p1), (.int p2)] (.int (0 : Int32))) (A4 : Arv Z h0 a4 k4 .double (256 : Int32) [(.double d0), (.double d1), (.double d2)] (.double (0 : UInt64))) (FZ : Fld Z h0 o "com/example/prizepath/prizepath/Insertions" "size" "I" (.int (1 : Int32))) (g_o : n0 ≤ o) (g_a1 : n0 ≤ a1) (g_a2 : n0 ≤ a2) (g_a3 : n0 ≤ a3) (g_a4 : n0 ≤ a4) (n_oa1 : o ≠ a1) (n_oa2 : o ≠ a2) (n_oa3 : o ≠ a3) (n_oa4 : o ≠ a4) (n_a1a2 : a1 ≠ a2) (n_a1a3 : a1 ≠ a3) (n_a1a4 : a1 ≠ a4) (n_a2a3 : a2 ≠ a3) (n_a2a4 : a2 ≠ a4) (n_a3a4 : a3 ≠ a4) :
    MetFree l (⟨"com/example/prizepath/prizepath/Insertions", "add", "(IIID)V"⟩ : MethodName) (head1 (Jvm.Cond.code (⟨"com/example/prizepath/prizepath/Insertions", "add", "(IIID)V"⟩ : MethodName) prog_15_method_5_code 7 none :: ws) ({ frames := 0, cells := 0, slots := 0, locals := 0 } : Room)) (fun aa U => aa = #[(.ref o), (.int x), (.int y), (.int z), (.double u)] ∧ Z.Warmed39 U.vm ∧ U.heap = h0) (fun _ _ _ _ _ => True) (fun _ U ou U' => ∃ v L, ou = .returned v ∧ Q_rm_add1 Z o x y z u a1 a2 a3 a4 a5 k1 k2 k3 k4 c0 c1 c2 r0 r1 r2 p0 p1 p2 d0 d1 d2 h0 n0 v U'.heap L ∧ FrameEnd U ou U' L ({ frames := 0, cells := 0, slots := 0, locals := 0 } : Room).cells ({ frames := 0, cells := 0, slots := 0, locals := 0 } : Room).slots) := by
  refine MetFree.of_bodySF (plainFor_of_name own_pn2) hisR ?_
  intro p e s m args below meth c s₁ Bd hml0 hP hK
  obtain ⟨rfl, hZ, hh⟩ := hP
  have hx := Bd.exec
  have hby := Bd.bytes
  have hml : c.maxLocals = 7 := hml0
  have hown : s.vm.findClass "com/example/prizepath/prizepath/Insertions" = some m.cls := findClass_of_methodNamed Bd.named
  have hnm := (name_of_methodNamed Bd.named Bd.method).1
  have X0 : Stand p l e ({ frames := 0, cells := 0, slots := 0, locals := 0 } : Room) s m #[(.ref o), (.int x), (.int y), (.int z), (.double u)] below meth c s₁ [] 0 0 := Stand.of_body Bd
  have e0 : s₁.heap = h0 := by rw [← hh, Bd.state]; rfl
  have N0 := Fr.nil n0
  have K0 := Keep.refl h0 [o, a1, a2, a3, a4]
  show own_Go p e below (fun o u L => FrameEnd s o u L ({ frames := 0, cells := 0, slots := 0, locals := 0 } : Room).cells ({ frames := 0, cells := 0, slots := 0, locals := 0 } : Room).slots) (Q_rm_add1 Z o x y z u a1 a2 a3 a4 a5 k1 k2 k3 k4 c0 c1 c2 r0 r1 r2 p0 p1 p2 d0 d1 d2 h0 n0) (s₁.setTop (entryFrame m #[(.ref o), (.int x), (.int y), (.int z), (.double u)] 7))
  rw [own_ef_rm_add1 m o x y z u]
  show own_Go _ _ _ _ _ (State.setTop _ (mkF _ 0 #[.val (.ref o), .val (.int x), .val (.int y), .val (.int z), .val (.double u), .second, .unset] []))
  refine own_aloadN X0 hx 1 rfl (hb hby own_d6_0) rfl rfl ?_
  refine own_getF X0 hx hZ (host := "") hown (Or.inl (own_hw hw 26 rfl)) Via.refl e0 FZ 4 rfl (hb hby own_d6_1) fun T3096 X3096 e3096 => ?_
  refine own_aloadN X3096 hx 5 rfl (hb hby own_d6_4) rfl rfl ?_
  refine own_getF X3096 hx hZ (host := "") hown (Or.inl (own_hw hw 10 rfl)) Via.refl e3096 F1 8 rfl (hb hby own_d6_5) fun T3097 X3097 e3097 => ?_
  refine own_len X3097 hx hZ e3097 A1 9 rfl (hb hby own_d6_8) ?_
  refine own_icmpYes X3097 hx 72 (hb hby own_d6_9) (by decide) (by decide) rfl ?_
  refine own_aloadN X3097 hx 73 rfl (hb hby own_d6_72) rfl rfl ?_
  refine own_getF X3097 hx hZ (host := "") hown (Or.inl (own_hw hw 10 rfl)) Via.refl e3097 F1 76 rfl (hb hby own_d6_73) fun T3098 X3098 e3098 => ?_
  refine own_aloadN X3098 hx 77 rfl (hb hby own_d6_76) rfl rfl ?_
  refine own_getF X3098 hx hZ (host := "") hown (Or.inl (own_hw hw 26 rfl)) Via.refl e3098 FZ 80 rfl (hb hby own_d6_77) fun T3099 X3099 e3099 => ?_
  refine own_iloadN X3099 hx 81 rfl (hb hby own_d6_80) rfl ?_
  refine own_stI X3099 hx hZ e3099 A1 ⟨by decide, by decide⟩ 1 rfl (Nat.le_of_ble_eq_true rfl) [(.int c0), (.int x), (.int c2)] rfl 82 rfl (hb hby own_d6_81) fun T3100 h3100 X3100 e3100 W3100 f3101 => ?_
  have f3102 := E0.wr W3100
  have f3103 := F1.other W3100 (Or.inl n_oa1)
  have f3104 := F2.other W3100 (Or.inl n_oa1)
  have f3105 := F3.other W3100 (Or.inl n_oa1)
  have f3106 := F4.other W3100 (Or.inl n_oa1)
  have f3107 := F5.other W3100 (Or.inl n_oa1)
  have f3108 := A2.other W3100 (Ne.symm n_a1a2)
  have f3109 := A3.other W3100 (Ne.symm n_a1a3)
  have f3110 := A4.other W3100 (Ne.symm n_a1a4)
  have f3111 := FZ.other W3100 (Or.inl n_oa1)
  have z3112 := Nat.le_trans Z0 (Keep.of_wr W3100).1
  have K3113 := K0.wr W3100 (Or.inl (List.mem_of_getElem? (i := 1) rfl))
  have N3114 := Fr.snoc X3100 N0 g_a1
  refine own_aloadN X3100 hx 83 rfl (hb hby own_d6_82) rfl rfl ?_
  refine own_getF X3100 hx hZ (host := "") hown (Or.inl (own_hw hw 12 rfl)) Via.refl e3100 f3104 86 rfl (hb hby own_d6_83) fun T3115 X3115 e3115 => ?_
  refine own_aloadN X3115 hx 87 rfl (hb hby own_d6_86) rfl rfl ?_
  refine own_getF X3115 hx hZ (host := "") hown (Or.inl (own_hw hw 26 rfl)) Via.refl e3115 f3111 90 rfl (hb hby own_d6_87) fun T3116 X3116 e3116 => ?_
  refine own_iloadN X3116 hx 91 rfl (hb hby own_d6_90) rfl ?_
  refine own_stI X3116 hx hZ e3116 f3108 ⟨by decide, by decide⟩ 1 rfl (Nat.le_of_ble_eq_true rfl) [(.int r0), (.int y), (.int r2)] rfl 92 rfl (hb hby own_d6_91) fun T3117 h3117 X3117 e3117 W3117 f3118 => ?_
  have f3119 := f3102.wr W3117
  have f3120 := f3103.other W3117 (Or.inl n_oa2)
  have f3121 := f3104.other W3117 (Or.inl n_oa2)
  have f3122 := f3105.other W3117 (Or.inl n_oa2)
  have f3123 := f3106.other W3117 (Or.inl n_oa2)
  have f3124 := f3107.other W3117 (Or.inl n_oa2)
  have f3125 := f3109.other W3117 (Ne.symm n_a2a3)
  have f3126 := f3110.other W3117 (Ne.symm n_a2a4)
  have f3127 := f3111.other W3117 (Or.inl n_oa2)
  have f3128 := f3101.other W3117 n_a1a2
  have z3129 := Nat.le_trans z3112 (Keep.of_wr W3117).1
  have K3130 := K3113.wr W3117 (Or.inl (List.mem_of_getElem? (i := 2) rfl))
  have N3131 := Fr.snoc X3117 N3114 g_a2
  refine own_aloadN X3117 hx 93 rfl (hb hby own_d6_92) rfl rfl ?_
  refine own_getF X3117 hx hZ (host := "") hown (Or.inl (own_hw hw 14 rfl)) Via.refl e3117 f3122 96 rfl (hb hby own_d6_93) fun T3132 X3132 e3132 => ?_
  refine own_aloadN X3132 hx 97 rfl (hb hby own_d6_96) rfl rfl ?_
  refine own_getF X3132 hx hZ (host := "") hown (Or.inl (own_hw hw 26 rfl)) Via.refl e3132 f3127 100 rfl (hb hby own_d6_97) fun T3133 X3133 e3133 => ?_
  refine own_iloadN X3133 hx 101 rfl (hb hby own_d6_100) rfl ?_
  refine own_stI X3133 hx hZ e3133 f3125 ⟨by decide, by decide⟩ 1 rfl (Nat.le_of_ble_eq_true rfl) [(.int p0), (.int z), (.int p2)] rfl 102 rfl (hb hby own_d6_101) fun T3134 h3134 X3134 e3134 W3134 f3135 => ?_
  have f3136 := f3119.wr W3134
  have f3137 := f3120.other W3134 (Or.inl n_oa3)
  have f3138 := f3121.other W3134 (Or.inl n_oa3)
  have f3139 := f3122.other W3134 (Or.inl n_oa3)
  have f3140 := f3123.other W3134 (Or.inl n_oa3)
  have f3141 := f3124.other W3134 (Or.inl n_oa3)
  have f3142 := f3126.other W3134 (Ne.symm n_a3a4)
  have f3143 := f3127.other W3134 (Or.inl n_oa3)
  have f3144 := f3128.other W3134 n_a1a3
  have f3145 := f3118.other W3134 n_a2a3
  have z3146 := Nat.le_trans z3129 (Keep.of_wr W3134).1
  have K3147 := K3130.wr W3134 (Or.inl (List.mem_of_getElem? (i := 3) rfl))
  have N3148 := Fr.snoc X3134 N3131 g_a3
  refine own_aloadN X3134 hx 103 rfl (hb hby own_d6_102) rfl rfl ?_
  refine own_getF X3134 hx hZ (host := "") hown (Or.inl (own_hw hw 17 rfl)) Via.refl e3134 f3140 106 rfl (hb hby own_d6_103) fun T3149 X3149 e3149 => ?_
  refine own_aloadN X3149 hx 107 rfl (hb hby own_d6_106) rfl rfl ?_
  refine own_getF X3149 hx hZ (host := "") hown (Or.inl (own_hw hw 26 rfl)) Via.refl e3149 f3143 110 rfl (hb hby own_d6_107) fun T3150 X3150 e3150 => ?_
  refine own_dload X3150 hx 112 rfl (hb hby own_d6_110) rfl ?_
  refine own_stD X3150 hx hZ e3150 f3142 ⟨by decide, by decide⟩ 1 rfl (Nat.le_of_ble_eq_true rfl) [(.double d0), (.double u), (.double d2)] rfl 113 rfl (hb hby own_d6_112) fun T3151 h3151 X3151 e3151 W3151 f3152 => ?_
  have f3153 := f3136.wr W3151
  have f3154 := f3137.other W3151 (Or.inl n_oa4)
  have f3155 := f3138.other W3151 (Or.inl n_oa4)
  have f3156 := f3139.other W3151 (Or.inl n_oa4)
  have f3157 := f3140.other W3151 (Or.inl n_oa4)
  have f3158 := f3141.other W3151 (Or.inl n_oa4)
  have f3159 := f3143.other W3151 (Or.inl n_oa4)
  have f3160 := f3144.other W3151 n_a1a4
  have f3161 := f3145.other W3151 n_a2a4
  have f3162 := f3135.other W3151 n_a3a4
  have z3163 := Nat.le_trans z3146 (Keep.of_wr W3151).1
  have K3164 := K3147.wr W3151 (Or.inl (List.mem_of_getElem? (i := 4) rfl))
  have N3165 := Fr.snoc X3151 N3148 g_a4
  refine own_aloadN X3151 hx 114 rfl (hb hby own_d6_113) rfl rfl ?_
  refine own_dup X3151 hx 115 rfl (hb hby own_d6_114) rfl ?_
  refine own_getF X3151 hx hZ (host := "") hown (Or.inl (own_hw hw 26 rfl)) Via.refl e3151 f3159 118 rfl (hb hby own_d6_115) fun T3166 X3166 e3166 => ?_
  refine own_iconst X3166 hx 119 rfl (hb hby own_d6_118) (1 : Int32) rfl ?_
  refine own_iadd X3166 hx 120 rfl (hb hby own_d6_119) (2 : Int32) rfl ?_
  refine own_putF X3166 hx hZ (host := "") hown (Or.inl (own_hw hw 26 rfl)) Via.refl e3166 f3159 f3153 (Or.inl (own_hw hw 27 rfl)) (own_hw hw 1 rfl) (ty := .int) (by decide) rfl rfl 123 rfl (hb hby own_d6_120) fun T3167 h3167 X3167 e3167 W3167 => ?_
  have f3168 := f3153.wr W3167
  have f3169 := f3154.other W3167 (Or.inr (slot_ne (Or.inl (own_hw hw 11 rfl)) (Or.inl (own_hw hw 27 rfl)) (by decide) (t := (.array .int)) (t' := .int) (by decide) (by decide)))
  have f3170 := f3155.other W3167 (Or.inr (slot_ne (Or.inl (own_hw hw 13 rfl)) (Or.inl (own_hw hw 27 rfl)) (by decide) (t := (.array .int)) (t' := .int) (by decide) (by decide)))
  have f3171 := f3156.other W3167 (Or.inr (slot_ne (Or.inl (own_hw hw 15 rfl)) (Or.inl (own_hw hw 27 rfl)) (by decide) (t := (.array .int)) (t' := .int) (by decide) (by decide)))
  have f3172 := f3157.other W3167 (Or.inr (slot_ne (Or.inl (own_hw hw 18 rfl)) (Or.inl (own_hw hw 27 rfl)) (by decide) (t := (.array .double)) (t' := .int) (by decide) (by decide)))
  have f3173 := f3158.other W3167 (Or.inr (slot_ne (Or.inl (own_hw hw 20 rfl)) (Or.inl (own_hw hw 27 rfl)) (by decide) (t := (.array .int)) (t' := .int) (by decide) (by decide)))
  have f3174 := f3160.other W3167 (Ne.symm n_oa1)
  have f3175 := f3161.other W3167 (Ne.symm n_oa2)
  have f3176 := f3162.other W3167 (Ne.symm n_oa3)
  have f3177 := f3152.other W3167 (Ne.symm n_oa4)
  have z3178 := Nat.le_trans z3163 (Keep.of_wr W3167).1
  have K3179 := K3164.wr W3167 (Or.inl (List.mem_of_getElem? (i := 0) rfl))
  have f3180 := f3159.same W3167
  have N3181 := Fr.snoc X3167 N3165 g_o
  refine own_ret X3167 none (fun _ => rfl) Bd.notSynchronized (by decide) (by decide) ?_ (fun fs hr => X3167.returnOut hx Bd.returns (hb hby own_d6_123) hr)
  show Q_rm_add1 Z o x y z u a1 a2 a3 a4 a5 k1 k2 k3 k4 c0 c1 c2 r0 r1 r2 p0 p1 p2 d0 d1 d2 h0 n0 _ T3167.heap _
  rw [e3167]
  exact ⟨rfl, N3181, K3179, f3174, f3175, f3176, f3177, f3169, f3170, f3171, f3172, f3173, f3180⟩
theorem own_ef_rm_add2 (m : MethodId) (o : Addr) (x : Int32) (y : Int32) (z : Int32) (u : UInt64) : entryFrame m #[(.ref o), (.int x), (.int y), (.int z), (.double u)] 7 = mkF m 0 #[.val (.ref o), .val (.int x), .val (.int y), .val (.int z), .val (.double u), .second, .unset] [] := by first | (simp [entryFrame, mkF, argsToLocals, Value.category]; done) | rfl
def Q_rm_add2 (Z : State) (o : Addr) (x : Int32) (y : Int32) (z : Int32) (u : UInt64) (a1 : Addr) (a2 : Addr) (a3 : Addr) (a4 : Addr) (a5 : Addr) (k1 : ClassId) (k2 : ClassId) (k3 : ClassId) (k4 : ClassId) (c0 : Int32) (c1 : Int32) (c2 : Int32) (r0 : Int32) (r1 : Int32) (r2 : Int32) (p0 : Int32) (p1 : Int32) (p2 : Int32) (d0 : UInt64) (d1 : UInt64) (d2 : UInt64) (h0 : Heap) (n0 : Nat) (v : Option Value) (h : Heap) (L : List Loc) : Prop := v = none ∧ Fr n0 L ∧ Keep h0 h [o, a1, a2, a3, a4] ∧ Arv Z h a1 k1 .int (256 : Int32) [(.int c0), (.int c1), (.int x)] (.int (0 : Int32)) ∧ Arv Z h a2 k2 .int (256 : Int32) [(.int r0), (.int r1), (.int y)] (.int (0 : Int32)) ∧ Arv Z h a3 k3 .int (256 : Int32) [(.int p0), (.int p1), (.int z)] (.int (0 : Int32)) ∧ Arv Z h a4 k4 .double (256 : Int32) [(.double d0), (.double d1), (.double u)] (.double (0 : UInt64)) ∧ Fld Z h o "com/example/prizepath/prizepath/Insertions" "customers" "[I" (.ref a1) ∧ Fld Z h o "com/example/prizepath/prizepath/Insertions" "routes" "[I" (.ref a2) ∧ Fld Z h o "com/example/prizepath/prizepath/Insertions" "places" "[I" (.ref a3) ∧ Fld Z h o "com/example/prizepath/prizepath/Insertions" "ranks" "[D" (.ref a4) ∧ Fld Z h o "com/example/prizepath/prizepath/Insertions" "kept" "[I" (.ref a5) ∧ Fld Z h o "com/example/prizepath/prizepath/Insertions" "size" "I" (.int (3 : Int32))
set_option maxRecDepth 65536 in
set_option maxHeartbeats 40000000 in
theorem rm_add2 (l : Launch) (Z : State) (a0 : Array Value) (hw : ∀ d ∈ tables_1, d.before a0 Z = true) (ws : List Jvm.Cond) (o : Addr) (x : Int32) (y : Int32) (z : Int32) (u : UInt64) (a1 : Addr) (a2 : Addr) (a3 : Addr) (a4 : Addr) (a5 : Addr) (k1 : ClassId) (k2 : ClassId) (k3 : ClassId) (k4 : ClassId) (c0 : Int32) (c1 : Int32) (c2 : Int32) (r0 : Int32) (r1 : Int32) (r2 : Int32) (p0 : Int32) (p1 : Int32) (p2 : Int32) (d0 : UInt64) (d1 : UInt64) (d2 : UInt64) (h0 : Heap) (n0 : Nat) (Z0 : n0 ≤ h0.size) (E0 : Exa Z h0 o "com/example/prizepath/prizepath/Insertions") (F1 : Fld Z h0 o "com/example/prizepath/prizepath/Insertions" "customers" "[I" (.ref a1)) (F2 : Fld Z h0 o "com/example/prizepath/prizepath/Insertions" "routes" "[I" (.ref a2)) (F3 : Fld Z h0 o "com/example/prizepath/prizepath/Insertions" "places" "[I" (.ref a3)) (F4 : Fld Z h0 o "com/example/prizepath/prizepath/Insertions" "ranks" "[D" (.ref a4)) (F5 : Fld Z h0 o "com/example/prizepath/prizepath/Insertions" "kept" "[I" (.ref a5)) (A1 : Arv Z h0 a1 k1 .int (256 : Int32) [(.int c0), (.int c1), (.int c2)] (.int (0 : Int32))) (A2 : Arv Z h0 a2 k2 .int (256 : Int32) [(.int r0), (.int r1), (.int r2)] (.int (0 : Int32))) (A3 : Arv Z h0 a3 k3 .int (256 : Int32) [(.int p0), (.int p1), (.int p2)] (.int (0 : Int32))) (A4 : Arv Z h0 a4 k4 .double (256 : Int32) [(.double d0), (.double d1), (.double d2)] (.double (0 : UInt64))) (FZ : Fld Z h0 o "com/example/prizepath/prizepath/Insertions" "size" "I" (.int (2 : Int32))) (g_o : n0 ≤ o) (g_a1 : n0 ≤ a1) (g_a2 : n0 ≤ a2) (g_a3 : n0 ≤ a3) (g_a4 : n0 ≤ a4) (n_oa1 : o ≠ a1) (n_oa2 : o ≠ a2) (n_oa3 : o ≠ a3) (n_oa4 : o ≠ a4) (n_a1a2 : a1 ≠ a2) (n_a1a3 : a1 ≠ a3) (n_a1a4 : a1 ≠ a4) (n_a2a3 : a2 ≠ a3) (n_a2a4 : a2 ≠ a4) (n_a3a4 : a3 ≠ a4) :
    MetFree l (⟨"com/example/prizepath/prizepath/Insertions", "add", "(IIID)V"⟩ : MethodName) (head1 (Jvm.Cond.code (⟨"com/example/prizepath/prizepath/Insertions", "add", "(IIID)V"⟩ : MethodName) prog_15_method_5_code 7 none :: ws) ({ frames := 0, cells := 0, slots := 0, locals := 0 } : Room)) (fun aa U => aa = #[(.ref o), (.int x), (.int y), (.int z), (.double u)] ∧ Z.Warmed39 U.vm ∧ U.heap = h0) (fun _ _ _ _ _ => True) (fun _ U ou U' => ∃ v L, ou = .returned v ∧ Q_rm_add2 Z o x y z u a1 a2 a3 a4 a5 k1 k2 k3 k4 c0 c1 c2 r0 r1 r2 p0 p1 p2 d0 d1 d2 h0 n0 v U'.heap L ∧ FrameEnd U ou U' L ({ frames := 0, cells := 0, slots := 0, locals := 0 } : Room).cells ({ frames := 0, cells := 0, slots := 0, locals := 0 } : Room).slots) := by
  refine MetFree.of_bodySF (plainFor_of_name own_pn2) hisR ?_
  intro p e s m args below meth c s₁ Bd hml0 hP hK
  obtain ⟨rfl, hZ, hh⟩ := hP
  have hx := Bd.exec
  have hby := Bd.bytes
  have hml : c.maxLocals = 7 := hml0
  have hown : s.vm.findClass "com/example/prizepath/prizepath/Insertions" = some m.cls := findClass_of_methodNamed Bd.named
  have hnm := (name_of_methodNamed Bd.named Bd.method).1
  have X0 : Stand p l e ({ frames := 0, cells := 0, slots := 0, locals := 0 } : Room) s m #[(.ref o), (.int x), (.int y), (.int z), (.double u)] below meth c s₁ [] 0 0 := Stand.of_body Bd
  have e0 : s₁.heap = h0 := by rw [← hh, Bd.state]; rfl
  have N0 := Fr.nil n0
  have K0 := Keep.refl h0 [o, a1, a2, a3, a4]
  show own_Go p e below (fun o u L => FrameEnd s o u L ({ frames := 0, cells := 0, slots := 0, locals := 0 } : Room).cells ({ frames := 0, cells := 0, slots := 0, locals := 0 } : Room).slots) (Q_rm_add2 Z o x y z u a1 a2 a3 a4 a5 k1 k2 k3 k4 c0 c1 c2 r0 r1 r2 p0 p1 p2 d0 d1 d2 h0 n0) (s₁.setTop (entryFrame m #[(.ref o), (.int x), (.int y), (.int z), (.double u)] 7))
  rw [own_ef_rm_add2 m o x y z u]
  show own_Go _ _ _ _ _ (State.setTop _ (mkF _ 0 #[.val (.ref o), .val (.int x), .val (.int y), .val (.int z), .val (.double u), .second, .unset] []))
  refine own_aloadN X0 hx 1 rfl (hb hby own_d6_0) rfl rfl ?_
  refine own_getF X0 hx hZ (host := "") hown (Or.inl (own_hw hw 26 rfl)) Via.refl e0 FZ 4 rfl (hb hby own_d6_1) fun T3182 X3182 e3182 => ?_
  refine own_aloadN X3182 hx 5 rfl (hb hby own_d6_4) rfl rfl ?_
  refine own_getF X3182 hx hZ (host := "") hown (Or.inl (own_hw hw 10 rfl)) Via.refl e3182 F1 8 rfl (hb hby own_d6_5) fun T3183 X3183 e3183 => ?_
  refine own_len X3183 hx hZ e3183 A1 9 rfl (hb hby own_d6_8) ?_
  refine own_icmpYes X3183 hx 72 (hb hby own_d6_9) (by decide) (by decide) rfl ?_
  refine own_aloadN X3183 hx 73 rfl (hb hby own_d6_72) rfl rfl ?_
  refine own_getF X3183 hx hZ (host := "") hown (Or.inl (own_hw hw 10 rfl)) Via.refl e3183 F1 76 rfl (hb hby own_d6_73) fun T3184 X3184 e3184 => ?_
  refine own_aloadN X3184 hx 77 rfl (hb hby own_d6_76) rfl rfl ?_
  refine own_getF X3184 hx hZ (host := "") hown (Or.inl (own_hw hw 26 rfl)) Via.refl e3184 FZ 80 rfl (hb hby own_d6_77) fun T3185 X3185 e3185 => ?_
  refine own_iloadN X3185 hx 81 rfl (hb hby own_d6_80) rfl ?_
  refine own_stI X3185 hx hZ e3185 A1 ⟨by decide, by decide⟩ 2 rfl (Nat.le_of_ble_eq_true rfl) [(.int c0), (.int c1), (.int x)] rfl 82 rfl (hb hby own_d6_81) fun T3186 h3186 X3186 e3186 W3186 f3187 => ?_
  have f3188 := E0.wr W3186
  have f3189 := F1.other W3186 (Or.inl n_oa1)
  have f3190 := F2.other W3186 (Or.inl n_oa1)
  have f3191 := F3.other W3186 (Or.inl n_oa1)
  have f3192 := F4.other W3186 (Or.inl n_oa1)
  have f3193 := F5.other W3186 (Or.inl n_oa1)
  have f3194 := A2.other W3186 (Ne.symm n_a1a2)
  have f3195 := A3.other W3186 (Ne.symm n_a1a3)
  have f3196 := A4.other W3186 (Ne.symm n_a1a4)
  have f3197 := FZ.other W3186 (Or.inl n_oa1)
  have z3198 := Nat.le_trans Z0 (Keep.of_wr W3186).1
  have K3199 := K0.wr W3186 (Or.inl (List.mem_of_getElem? (i := 1) rfl))
  have N3200 := Fr.snoc X3186 N0 g_a1
  refine own_aloadN X3186 hx 83 rfl (hb hby own_d6_82) rfl rfl ?_
  refine own_getF X3186 hx hZ (host := "") hown (Or.inl (own_hw hw 12 rfl)) Via.refl e3186 f3190 86 rfl (hb hby own_d6_83) fun T3201 X3201 e3201 => ?_
  refine own_aloadN X3201 hx 87 rfl (hb hby own_d6_86) rfl rfl ?_
  refine own_getF X3201 hx hZ (host := "") hown (Or.inl (own_hw hw 26 rfl)) Via.refl e3201 f3197 90 rfl (hb hby own_d6_87) fun T3202 X3202 e3202 => ?_
  refine own_iloadN X3202 hx 91 rfl (hb hby own_d6_90) rfl ?_
  refine own_stI X3202 hx hZ e3202 f3194 ⟨by decide, by decide⟩ 2 rfl (Nat.le_of_ble_eq_true rfl) [(.int r0), (.int r1), (.int y)] rfl 92 rfl (hb hby own_d6_91) fun T3203 h3203 X3203 e3203 W3203 f3204 => ?_
  have f3205 := f3188.wr W3203
  have f3206 := f3189.other W3203 (Or.inl n_oa2)
  have f3207 := f3190.other W3203 (Or.inl n_oa2)
  have f3208 := f3191.other W3203 (Or.inl n_oa2)
  have f3209 := f3192.other W3203 (Or.inl n_oa2)
  have f3210 := f3193.other W3203 (Or.inl n_oa2)
  have f3211 := f3195.other W3203 (Ne.symm n_a2a3)
  have f3212 := f3196.other W3203 (Ne.symm n_a2a4)
  have f3213 := f3197.other W3203 (Or.inl n_oa2)
  have f3214 := f3187.other W3203 n_a1a2
  have z3215 := Nat.le_trans z3198 (Keep.of_wr W3203).1
  have K3216 := K3199.wr W3203 (Or.inl (List.mem_of_getElem? (i := 2) rfl))
  have N3217 := Fr.snoc X3203 N3200 g_a2
  refine own_aloadN X3203 hx 93 rfl (hb hby own_d6_92) rfl rfl ?_
  refine own_getF X3203 hx hZ (host := "") hown (Or.inl (own_hw hw 14 rfl)) Via.refl e3203 f3208 96 rfl (hb hby own_d6_93) fun T3218 X3218 e3218 => ?_
  refine own_aloadN X3218 hx 97 rfl (hb hby own_d6_96) rfl rfl ?_
  refine own_getF X3218 hx hZ (host := "") hown (Or.inl (own_hw hw 26 rfl)) Via.refl e3218 f3213 100 rfl (hb hby own_d6_97) fun T3219 X3219 e3219 => ?_
  refine own_iloadN X3219 hx 101 rfl (hb hby own_d6_100) rfl ?_
  refine own_stI X3219 hx hZ e3219 f3211 ⟨by decide, by decide⟩ 2 rfl (Nat.le_of_ble_eq_true rfl) [(.int p0), (.int p1), (.int z)] rfl 102 rfl (hb hby own_d6_101) fun T3220 h3220 X3220 e3220 W3220 f3221 => ?_
  have f3222 := f3205.wr W3220
  have f3223 := f3206.other W3220 (Or.inl n_oa3)
  have f3224 := f3207.other W3220 (Or.inl n_oa3)
  have f3225 := f3208.other W3220 (Or.inl n_oa3)
  have f3226 := f3209.other W3220 (Or.inl n_oa3)
  have f3227 := f3210.other W3220 (Or.inl n_oa3)
  have f3228 := f3212.other W3220 (Ne.symm n_a3a4)
  have f3229 := f3213.other W3220 (Or.inl n_oa3)
  have f3230 := f3214.other W3220 n_a1a3
  have f3231 := f3204.other W3220 n_a2a3
  have z3232 := Nat.le_trans z3215 (Keep.of_wr W3220).1
  have K3233 := K3216.wr W3220 (Or.inl (List.mem_of_getElem? (i := 3) rfl))
  have N3234 := Fr.snoc X3220 N3217 g_a3
  refine own_aloadN X3220 hx 103 rfl (hb hby own_d6_102) rfl rfl ?_
  refine own_getF X3220 hx hZ (host := "") hown (Or.inl (own_hw hw 17 rfl)) Via.refl e3220 f3226 106 rfl (hb hby own_d6_103) fun T3235 X3235 e3235 => ?_
  refine own_aloadN X3235 hx 107 rfl (hb hby own_d6_106) rfl rfl ?_
  refine own_getF X3235 hx hZ (host := "") hown (Or.inl (own_hw hw 26 rfl)) Via.refl e3235 f3229 110 rfl (hb hby own_d6_107) fun T3236 X3236 e3236 => ?_
  refine own_dload X3236 hx 112 rfl (hb hby own_d6_110) rfl ?_
  refine own_stD X3236 hx hZ e3236 f3228 ⟨by decide, by decide⟩ 2 rfl (Nat.le_of_ble_eq_true rfl) [(.double d0), (.double d1), (.double u)] rfl 113 rfl (hb hby own_d6_112) fun T3237 h3237 X3237 e3237 W3237 f3238 => ?_
  have f3239 := f3222.wr W3237
  have f3240 := f3223.other W3237 (Or.inl n_oa4)
  have f3241 := f3224.other W3237 (Or.inl n_oa4)
  have f3242 := f3225.other W3237 (Or.inl n_oa4)
  have f3243 := f3226.other W3237 (Or.inl n_oa4)
  have f3244 := f3227.other W3237 (Or.inl n_oa4)
  have f3245 := f3229.other W3237 (Or.inl n_oa4)
  have f3246 := f3230.other W3237 n_a1a4
  have f3247 := f3231.other W3237 n_a2a4
  have f3248 := f3221.other W3237 n_a3a4
  have z3249 := Nat.le_trans z3232 (Keep.of_wr W3237).1
  have K3250 := K3233.wr W3237 (Or.inl (List.mem_of_getElem? (i := 4) rfl))
  have N3251 := Fr.snoc X3237 N3234 g_a4
  refine own_aloadN X3237 hx 114 rfl (hb hby own_d6_113) rfl rfl ?_
  refine own_dup X3237 hx 115 rfl (hb hby own_d6_114) rfl ?_
  refine own_getF X3237 hx hZ (host := "") hown (Or.inl (own_hw hw 26 rfl)) Via.refl e3237 f3245 118 rfl (hb hby own_d6_115) fun T3252 X3252 e3252 => ?_
  refine own_iconst X3252 hx 119 rfl (hb hby own_d6_118) (1 : Int32) rfl ?_
  refine own_iadd X3252 hx 120 rfl (hb hby own_d6_119) (3 : Int32) rfl ?_
  refine own_putF X3252 hx hZ (host := "") hown (Or.inl (own_hw hw 26 rfl)) Via.refl e3252 f3245 f3239 (Or.inl (own_hw hw 27 rfl)) (own_hw hw 1 rfl) (ty := .int) (by decide) rfl rfl 123 rfl (hb hby own_d6_120) fun T3253 h3253 X3253 e3253 W3253 => ?_
  have f3254 := f3239.wr W3253
  have f3255 := f3240.other W3253 (Or.inr (slot_ne (Or.inl (own_hw hw 11 rfl)) (Or.inl (own_hw hw 27 rfl)) (by decide) (t := (.array .int)) (t' := .int) (by decide) (by decide)))
  have f3256 := f3241.other W3253 (Or.inr (slot_ne (Or.inl (own_hw hw 13 rfl)) (Or.inl (own_hw hw 27 rfl)) (by decide) (t := (.array .int)) (t' := .int) (by decide) (by decide)))
  have f3257 := f3242.other W3253 (Or.inr (slot_ne (Or.inl (own_hw hw 15 rfl)) (Or.inl (own_hw hw 27 rfl)) (by decide) (t := (.array .int)) (t' := .int) (by decide) (by decide)))
  have f3258 := f3243.other W3253 (Or.inr (slot_ne (Or.inl (own_hw hw 18 rfl)) (Or.inl (own_hw hw 27 rfl)) (by decide) (t := (.array .double)) (t' := .int) (by decide) (by decide)))
  have f3259 := f3244.other W3253 (Or.inr (slot_ne (Or.inl (own_hw hw 20 rfl)) (Or.inl (own_hw hw 27 rfl)) (by decide) (t := (.array .int)) (t' := .int) (by decide) (by decide)))
  have f3260 := f3246.other W3253 (Ne.symm n_oa1)
  have f3261 := f3247.other W3253 (Ne.symm n_oa2)
  have f3262 := f3248.other W3253 (Ne.symm n_oa3)
  have f3263 := f3238.other W3253 (Ne.symm n_oa4)
  have z3264 := Nat.le_trans z3249 (Keep.of_wr W3253).1
  have K3265 := K3250.wr W3253 (Or.inl (List.mem_of_getElem? (i := 0) rfl))
  have f3266 := f3245.same W3253
  have N3267 := Fr.snoc X3253 N3251 g_o
  refine own_ret X3253 none (fun _ => rfl) Bd.notSynchronized (by decide) (by decide) ?_ (fun fs hr => X3253.returnOut hx Bd.returns (hb hby own_d6_123) hr)
  show Q_rm_add2 Z o x y z u a1 a2 a3 a4 a5 k1 k2 k3 k4 c0 c1 c2 r0 r1 r2 p0 p1 p2 d0 d1 d2 h0 n0 _ T3253.heap _
  rw [e3253]
  exact ⟨rfl, N3267, K3265, f3260, f3261, f3262, f3263, f3255, f3256, f3257, f3258, f3259, f3266⟩
theorem own_ef_rm_init (m : MethodId) (o : Addr) : entryFrame m #[(.ref o)] 1 = mkF m 0 #[.val (.ref o)] [] := by first | (simp [entryFrame, mkF, argsToLocals, Value.category]; done) | rfl
def Q_rm_init (Z : State) (o : Addr) (h0 : Heap) (n0 : Nat) (v : Option Value) (h : Heap) (L : List Loc) : Prop := ∃ (a1 a2 a3 a4 a5 : Addr) (k1 k2 k3 k4 k5 : ClassId), v = none ∧ Fr n0 L ∧ Keep h0 h [o] ∧ Fld Z h o "com/example/prizepath/prizepath/Insertions" "customers" "[I" (.ref a1) ∧ Fld Z h o "com/example/prizepath/prizepath/Insertions" "routes" "[I" (.ref a2) ∧ Fld Z h o "com/example/prizepath/prizepath/Insertions" "places" "[I" (.ref a3) ∧ Fld Z h o "com/example/prizepath/prizepath/Insertions" "ranks" "[D" (.ref a4) ∧ Fld Z h o "com/example/prizepath/prizepath/Insertions" "kept" "[I" (.ref a5) ∧ Fld Z h o "com/example/prizepath/prizepath/Insertions" "size" "I" (.int (0 : Int32)) ∧ Arv Z h a1 k1 .int (256 : Int32) [(.int (0 : Int32)), (.int (0 : Int32)), (.int (0 : Int32))] (.int (0 : Int32)) ∧ Arv Z h a2 k2 .int (256 : Int32) [(.int (0 : Int32)), (.int (0 : Int32)), (.int (0 : Int32))] (.int (0 : Int32)) ∧ Arv Z h a3 k3 .int (256 : Int32) [(.int (0 : Int32)), (.int (0 : Int32)), (.int (0 : Int32))] (.int (0 : Int32)) ∧ Arv Z h a4 k4 .double (256 : Int32) [(.double (0 : UInt64)), (.double (0 : UInt64)), (.double (0 : UInt64))] (.double (0 : UInt64)) ∧ Arv Z h a5 k5 .int (1 : Int32) [(.int (0 : Int32))] (.int (0 : Int32)) ∧ n0 ≤ a1 ∧ n0 ≤ a2 ∧ n0 ≤ a3 ∧ n0 ≤ a4 ∧ n0 ≤ a5 ∧ o ≠ a1 ∧ o ≠ a2 ∧ o ≠ a3 ∧ o ≠ a4 ∧ a1 ≠ a2 ∧ a1 ≠ a3 ∧ a1 ≠ a4 ∧ a2 ≠ a3 ∧ a2 ≠ a4 ∧ a3 ≠ a4 ∧ o ≠ a5 ∧ a1 ≠ a5 ∧ a2 ≠ a5 ∧ a3 ≠ a5 ∧ a4 ≠ a5
theorem own_d1_0 : decode prog_15_method_1_code 0 = .ok (.aload_n 0, 1) := by decide +kernel
theorem own_d1_1 : decode prog_15_method_1_code 1 = .ok (.invokespecial 3, 3) := by decide +kernel
theorem own_d1_4 : decode prog_15_method_1_code 4 = .ok (.aload_n 0, 1) := by decide +kernel
theorem own_d1_5 : decode prog_15_method_1_code 5 = .ok (.sipush 256, 3) := by decide +kernel
theorem own_d1_8 : decode prog_15_method_1_code 8 = .ok (.newarray .int, 2) := by decide +kernel
theorem own_d1_10 : decode prog_15_method_1_code 10 = .ok (.putfield 11, 3) := by decide +kernel
theorem own_d1_13 : decode prog_15_method_1_code 13 = .ok (.aload_n 0, 1) := by decide +kernel
theorem own_d1_14 : decode prog_15_method_1_code 14 = .ok (.sipush 256, 3) := by decide +kernel
theorem own_d1_17 : decode prog_15_method_1_code 17 = .ok (.newarray .int, 2) := by decide +kernel
theorem own_d1_19 : decode prog_15_method_1_code 19 = .ok (.putfield 15, 3) := by decide +kernel
theorem own_d1_22 : decode prog_15_method_1_code 22 = .ok (.aload_n 0, 1) := by decide +kernel
theorem own_d1_23 : decode prog_15_method_1_code 23 = .ok (.sipush 256, 3) := by decide +kernel
theorem own_d1_26 : decode prog_15_method_1_code 26 = .ok (.newarray .int, 2) := by decide +kernel
theorem own_d1_28 : decode prog_15_method_1_code 28 = .ok (.putfield 18, 3) := by decide +kernel
theorem own_d1_31 : decode prog_15_method_1_code 31 = .ok (.aload_n 0, 1) := by decide +kernel
theorem own_d1_32 : decode prog_15_method_1_code 32 = .ok (.sipush 256, 3) := by decide +kernel
theorem own_d1_35 : decode prog_15_method_1_code 35 = .ok (.newarray .double, 2) := by decide +kernel
theorem own_d1_37 : decode prog_15_method_1_code 37 = .ok (.putfield 21, 3) := by decide +kernel
theorem own_d1_40 : decode prog_15_method_1_code 40 = .ok (.aload_n 0, 1) := by decide +kernel
theorem own_d1_41 : decode prog_15_method_1_code 41 = .ok (.iconst 1, 1) := by decide +kernel
theorem own_d1_42 : decode prog_15_method_1_code 42 = .ok (.newarray .int, 2) := by decide +kernel
theorem own_d1_44 : decode prog_15_method_1_code 44 = .ok (.putfield 25, 3) := by decide +kernel
theorem own_d1_47 : decode prog_15_method_1_code 47 = .ok (.return_, 1) := by decide +kernel
set_option maxRecDepth 65536 in
set_option maxHeartbeats 40000000 in
theorem rm_init (l : Launch) (Z : State) (a0 : Array Value) (hw : ∀ d ∈ tables_1, d.before a0 Z = true) (ws : List Jvm.Cond) (o : Addr) (h0 : Heap) (n0 : Nat) (Z0 : n0 ≤ h0.size) (E0 : Exa Z h0 o "com/example/prizepath/prizepath/Insertions") (F1 : Fld Z h0 o "com/example/prizepath/prizepath/Insertions" "customers" "[I" .null) (F2 : Fld Z h0 o "com/example/prizepath/prizepath/Insertions" "routes" "[I" .null) (F3 : Fld Z h0 o "com/example/prizepath/prizepath/Insertions" "places" "[I" .null) (F4 : Fld Z h0 o "com/example/prizepath/prizepath/Insertions" "ranks" "[D" .null) (F5 : Fld Z h0 o "com/example/prizepath/prizepath/Insertions" "kept" "[I" .null) (FZ : Fld Z h0 o "com/example/prizepath/prizepath/Insertions" "size" "I" (.int (0 : Int32))) (g_o : n0 ≤ o) :
    MetFree l (⟨"com/example/prizepath/prizepath/Insertions", "<init>", "()V"⟩ : MethodName) (head1 (Jvm.Cond.code (⟨"com/example/prizepath/prizepath/Insertions", "<init>", "()V"⟩ : MethodName) prog_15_method_1_code 1 none :: ws) ({ frames := 1, cells := 5, slots := 1025, locals := 12 } : Room)) (fun aa U => aa = #[(.ref o)] ∧ Z.Warmed39 U.vm ∧ U.heap = h0) (fun _ _ _ _ _ => True) (fun _ U ou U' => ∃ v L, ou = .returned v ∧ Q_rm_init Z o h0 n0 v U'.heap L ∧ FrameEnd U ou U' L ({ frames := 1, cells := 5, slots := 1025, locals := 12 } : Room).cells ({ frames := 1, cells := 5, slots := 1025, locals := 12 } : Room).slots) := by
  refine MetFree.of_bodySF (plainFor_of_name own_pn2) hisR ?_
  intro p e s m args below meth c s₁ Bd hml0 hP hK
  obtain ⟨rfl, hZ, hh⟩ := hP
  have hx := Bd.exec
  have hby := Bd.bytes
  have hml : c.maxLocals = 1 := hml0
  have hown : s.vm.findClass "com/example/prizepath/prizepath/Insertions" = some m.cls := findClass_of_methodNamed Bd.named
  have hnm := (name_of_methodNamed Bd.named Bd.method).1
  have X0 : Stand p l e ({ frames := 1, cells := 5, slots := 1025, locals := 12 } : Room) s m #[(.ref o)] below meth c s₁ [] 0 0 := Stand.of_body Bd
  have e0 : s₁.heap = h0 := by rw [← hh, Bd.state]; rfl
  have N0 := Fr.nil n0
  have K0 := Keep.refl h0 [o]
  show own_Go p e below (fun o u L => FrameEnd s o u L ({ frames := 1, cells := 5, slots := 1025, locals := 12 } : Room).cells ({ frames := 1, cells := 5, slots := 1025, locals := 12 } : Room).slots) (Q_rm_init Z o h0 n0) (s₁.setTop (entryFrame m #[(.ref o)] 1))
  rw [own_ef_rm_init m o]
  show own_Go _ _ _ _ _ (State.setTop _ (mkF _ 0 #[.val (.ref o)] []))
  refine own_aloadN X0 hx 1 rfl (hb hby own_d1_0) rfl rfl ?_
  refine own_initO X0 hx hZ hown (own_hw hw 6 rfl) (own_hw hw 7 rfl) (own_hw hw 8 rfl) e0 (by rw [hml]; rfl) 4 rfl (hb hby own_d1_1) (by decide) 0 (Nat.le_of_eq rfl) (by decide) fun T3268 X3268 e3268 => ?_
  refine own_aloadN X3268 hx 5 rfl (hb hby own_d1_4) rfl rfl ?_
  refine own_sipush X3268 hx 8 rfl (hb hby own_d1_5) (256 : Int32) rfl ?_
  refine own_newA X3268 hx hZ (own_hw hw 9 rfl) e3268 10 rfl (hb hby own_d1_8) (by decide) 256 (by decide) (by decide) (by decide) (by decide) "[I" (by decide) fun T3269 h3269 k3269 b3269 g3269 X3269 e3269 E3269 A3269 C3269 => ?_
  have ne3270 : o ≠ b3269 := Nat.ne_of_lt (Nat.lt_of_lt_of_le E0.lt (Nat.le_of_eq g3269.symm))
  have ge3271 : n0 ≤ b3269 := Nat.le_trans Z0 (Nat.le_of_eq g3269.symm)
  have sz3272 : h0.size ≤ b3269 := Nat.le_trans K0.1 (Nat.le_of_eq g3269.symm)
  have f3273 := E0.ext E3269
  have f3274 := F1.ext E3269
  have f3275 := F2.ext E3269
  have f3276 := F3.ext E3269
  have f3277 := F4.ext E3269
  have f3278 := F5.ext E3269
  have f3279 := FZ.ext E3269
  have z3280 := Nat.le_trans Z0 E3269.1
  have K3281 := K0.ext E3269
  have f3282 : Arv Z h3269 b3269 k3269 .int (256 : Int32) [(.int (0 : Int32)), (.int (0 : Int32)), (.int (0 : Int32))] (.int (0 : Int32)) := (Arv.new A3269 (by decide)).pad (pad_rep [] (.int (0 : Int32)) 3)
  refine own_putF X3269 hx hZ (host := "") hown (Or.inl (own_hw hw 10 rfl)) Via.refl e3269 f3274 f3273 (Or.inl (own_hw hw 11 rfl)) (own_hw hw 1 rfl) (ty := (.array .int)) (by decide) rfl rfl 13 rfl (hb hby own_d1_10) fun T3283 h3283 X3283 e3283 W3283 => ?_
  have f3284 := f3273.wr W3283
  have f3285 := f3275.other W3283 (Or.inr (slot_ne (Or.inl (own_hw hw 13 rfl)) (Or.inl (own_hw hw 11 rfl)) (by decide) (t := (.array .int)) (t' := (.array .int)) (by decide) (by decide)))
  have f3286 := f3276.other W3283 (Or.inr (slot_ne (Or.inl (own_hw hw 15 rfl)) (Or.inl (own_hw hw 11 rfl)) (by decide) (t := (.array .int)) (t' := (.array .int)) (by decide) (by decide)))
  have f3287 := f3277.other W3283 (Or.inr (slot_ne (Or.inl (own_hw hw 18 rfl)) (Or.inl (own_hw hw 11 rfl)) (by decide) (t := (.array .double)) (t' := (.array .int)) (by decide) (by decide)))
  have f3288 := f3278.other W3283 (Or.inr (slot_ne (Or.inl (own_hw hw 20 rfl)) (Or.inl (own_hw hw 11 rfl)) (by decide) (t := (.array .int)) (t' := (.array .int)) (by decide) (by decide)))
  have f3289 := f3279.other W3283 (Or.inr (slot_ne (Or.inl (own_hw hw 27 rfl)) (Or.inl (own_hw hw 11 rfl)) (by decide) (t := .int) (t' := (.array .int)) (by decide) (by decide)))
  have f3290 := C3269.wr W3283
  have f3291 := f3282.other W3283 (Ne.symm ne3270)
  have z3292 := Nat.le_trans z3280 (Keep.of_wr W3283).1
  have K3293 := K3281.wr W3283 (Or.inl (List.mem_of_getElem? (i := 0) rfl))
  have f3294 := f3274.same W3283
  have N3295 := Fr.snoc X3283 N0 g_o
  refine own_aloadN X3283 hx 14 rfl (hb hby own_d1_13) rfl rfl ?_
  refine own_sipush X3283 hx 17 rfl (hb hby own_d1_14) (256 : Int32) rfl ?_
  refine own_newA X3283 hx hZ (own_hw hw 9 rfl) e3283 19 rfl (hb hby own_d1_17) (by decide) 256 (by decide) (by decide) (by decide) (by decide) "[I" (by decide) fun T3296 h3296 k3296 b3296 g3296 X3296 e3296 E3296 A3296 C3296 => ?_
  have ne3297 : o ≠ b3296 := Nat.ne_of_lt (Nat.lt_of_lt_of_le f3284.lt (Nat.le_of_eq g3296.symm))
  have ne3298 : b3269 ≠ b3296 := Nat.ne_of_lt (Nat.lt_of_lt_of_le f3290.lt (Nat.le_of_eq g3296.symm))
  have ge3299 : n0 ≤ b3296 := Nat.le_trans z3292 (Nat.le_of_eq g3296.symm)
  have sz3300 : h0.size ≤ b3296 := Nat.le_trans K3293.1 (Nat.le_of_eq g3296.symm)
  have f3301 := f3284.ext E3296
  have f3302 := f3285.ext E3296
  have f3303 := f3286.ext E3296
  have f3304 := f3287.ext E3296
  have f3305 := f3288.ext E3296
  have f3306 := f3289.ext E3296
  have f3307 := f3290.ext E3296
  have f3308 := f3291.ext E3296
  have f3309 := f3294.ext E3296
  have z3310 := Nat.le_trans z3292 E3296.1
  have K3311 := K3293.ext E3296
  have f3312 : Arv Z h3296 b3296 k3296 .int (256 : Int32) [(.int (0 : Int32)), (.int (0 : Int32)), (.int (0 : Int32))] (.int (0 : Int32)) := (Arv.new A3296 (by decide)).pad (pad_rep [] (.int (0 : Int32)) 3)
  refine own_putF X3296 hx hZ (host := "") hown (Or.inl (own_hw hw 12 rfl)) Via.refl e3296 f3302 f3301 (Or.inl (own_hw hw 13 rfl)) (own_hw hw 1 rfl) (ty := (.array .int)) (by decide) rfl rfl 22 rfl (hb hby own_d1_19) fun T3313 h3313 X3313 e3313 W3313 => ?_
  have f3314 := f3301.wr W3313
  have f3315 := f3303.other W3313 (Or.inr (slot_ne (Or.inl (own_hw hw 15 rfl)) (Or.inl (own_hw hw 13 rfl)) (by decide) (t := (.array .int)) (t' := (.array .int)) (by decide) (by decide)))
  have f3316 := f3304.other W3313 (Or.inr (slot_ne (Or.inl (own_hw hw 18 rfl)) (Or.inl (own_hw hw 13 rfl)) (by decide) (t := (.array .double)) (t' := (.array .int)) (by decide) (by decide)))
  have f3317 := f3305.other W3313 (Or.inr (slot_ne (Or.inl (own_hw hw 20 rfl)) (Or.inl (own_hw hw 13 rfl)) (by decide) (t := (.array .int)) (t' := (.array .int)) (by decide) (by decide)))
  have f3318 := f3306.other W3313 (Or.inr (slot_ne (Or.inl (own_hw hw 27 rfl)) (Or.inl (own_hw hw 13 rfl)) (by decide) (t := .int) (t' := (.array .int)) (by decide) (by decide)))
  have f3319 := f3307.wr W3313
  have f3320 := f3308.other W3313 (Ne.symm ne3270)
  have f3321 := f3309.other W3313 (Or.inr (slot_ne (Or.inl (own_hw hw 11 rfl)) (Or.inl (own_hw hw 13 rfl)) (by decide) (t := (.array .int)) (t' := (.array .int)) (by decide) (by decide)))
  have f3322 := C3296.wr W3313
  have f3323 := f3312.other W3313 (Ne.symm ne3297)
  have z3324 := Nat.le_trans z3310 (Keep.of_wr W3313).1
  have K3325 := K3311.wr W3313 (Or.inl (List.mem_of_getElem? (i := 0) rfl))
  have f3326 := f3302.same W3313
  have N3327 := Fr.snoc X3313 N3295 g_o
  refine own_aloadN X3313 hx 23 rfl (hb hby own_d1_22) rfl rfl ?_
  refine own_sipush X3313 hx 26 rfl (hb hby own_d1_23) (256 : Int32) rfl ?_
  refine own_newA X3313 hx hZ (own_hw hw 9 rfl) e3313 28 rfl (hb hby own_d1_26) (by decide) 256 (by decide) (by decide) (by decide) (by decide) "[I" (by decide) fun T3328 h3328 k3328 b3328 g3328 X3328 e3328 E3328 A3328 C3328 => ?_
  have ne3329 : o ≠ b3328 := Nat.ne_of_lt (Nat.lt_of_lt_of_le f3314.lt (Nat.le_of_eq g3328.symm))
  have ne3330 : b3269 ≠ b3328 := Nat.ne_of_lt (Nat.lt_of_lt_of_le f3319.lt (Nat.le_of_eq g3328.symm))
  have ne3331 : b3296 ≠ b3328 := Nat.ne_of_lt (Nat.lt_of_lt_of_le f3322.lt (Nat.le_of_eq g3328.symm))
  have ge3332 : n0 ≤ b3328 := Nat.le_trans z3324 (Nat.le_of_eq g3328.symm)
  have sz3333 : h0.size ≤ b3328 := Nat.le_trans K3325.1 (Nat.le_of_eq g3328.symm)
  have f3334 := f3314.ext E3328
  have f3335 := f3315.ext E3328
  have f3336 := f3316.ext E3328
  have f3337 := f3317.ext E3328
  have f3338 := f3318.ext E3328
  have f3339 := f3319.ext E3328
  have f3340 := f3320.ext E3328
  have f3341 := f3321.ext E3328
  have f3342 := f3322.ext E3328
  have f3343 := f3323.ext E3328
  have f3344 := f3326.ext E3328
  have z3345 := Nat.le_trans z3324 E3328.1
  have K3346 := K3325.ext E3328
  have f3347 : Arv Z h3328 b3328 k3328 .int (256 : Int32) [(.int (0 : Int32)), (.int (0 : Int32)), (.int (0 : Int32))] (.int (0 : Int32)) := (Arv.new A3328 (by decide)).pad (pad_rep [] (.int (0 : Int32)) 3)
  refine own_putF X3328 hx hZ (host := "") hown (Or.inl (own_hw hw 14 rfl)) Via.refl e3328 f3335 f3334 (Or.inl (own_hw hw 15 rfl)) (own_hw hw 1 rfl) (ty := (.array .int)) (by decide) rfl rfl 31 rfl (hb hby own_d1_28) fun T3348 h3348 X3348 e3348 W3348 => ?_
  have f3349 := f3334.wr W3348
  have f3350 := f3336.other W3348 (Or.inr (slot_ne (Or.inl (own_hw hw 18 rfl)) (Or.inl (own_hw hw 15 rfl)) (by decide) (t := (.array .double)) (t' := (.array .int)) (by decide) (by decide)))
  have f3351 := f3337.other W3348 (Or.inr (slot_ne (Or.inl (own_hw hw 20 rfl)) (Or.inl (own_hw hw 15 rfl)) (by decide) (t := (.array .int)) (t' := (.array .int)) (by decide) (by decide)))
  have f3352 := f3338.other W3348 (Or.inr (slot_ne (Or.inl (own_hw hw 27 rfl)) (Or.inl (own_hw hw 15 rfl)) (by decide) (t := .int) (t' := (.array .int)) (by decide) (by decide)))
  have f3353 := f3339.wr W3348
  have f3354 := f3340.other W3348 (Ne.symm ne3270)
  have f3355 := f3341.other W3348 (Or.inr (slot_ne (Or.inl (own_hw hw 11 rfl)) (Or.inl (own_hw hw 15 rfl)) (by decide) (t := (.array .int)) (t' := (.array .int)) (by decide) (by decide)))
  have f3356 := f3342.wr W3348
  have f3357 := f3343.other W3348 (Ne.symm ne3297)
  have f3358 := f3344.other W3348 (Or.inr (slot_ne (Or.inl (own_hw hw 13 rfl)) (Or.inl (own_hw hw 15 rfl)) (by decide) (t := (.array .int)) (t' := (.array .int)) (by decide) (by decide)))
  have f3359 := C3328.wr W3348
  have f3360 := f3347.other W3348 (Ne.symm ne3329)
  have z3361 := Nat.le_trans z3345 (Keep.of_wr W3348).1
  have K3362 := K3346.wr W3348 (Or.inl (List.mem_of_getElem? (i := 0) rfl))
  have f3363 := f3335.same W3348
  have N3364 := Fr.snoc X3348 N3327 g_o
  refine own_aloadN X3348 hx 32 rfl (hb hby own_d1_31) rfl rfl ?_
  refine own_sipush X3348 hx 35 rfl (hb hby own_d1_32) (256 : Int32) rfl ?_
  refine own_newA X3348 hx hZ (own_hw hw 16 rfl) e3348 37 rfl (hb hby own_d1_35) (by decide) 256 (by decide) (by decide) (by decide) (by decide) "[D" (by decide) fun T3365 h3365 k3365 b3365 g3365 X3365 e3365 E3365 A3365 C3365 => ?_
  have ne3366 : o ≠ b3365 := Nat.ne_of_lt (Nat.lt_of_lt_of_le f3349.lt (Nat.le_of_eq g3365.symm))
  have ne3367 : b3269 ≠ b3365 := Nat.ne_of_lt (Nat.lt_of_lt_of_le f3353.lt (Nat.le_of_eq g3365.symm))
  have ne3368 : b3296 ≠ b3365 := Nat.ne_of_lt (Nat.lt_of_lt_of_le f3356.lt (Nat.le_of_eq g3365.symm))
  have ne3369 : b3328 ≠ b3365 := Nat.ne_of_lt (Nat.lt_of_lt_of_le f3359.lt (Nat.le_of_eq g3365.symm))
  have ge3370 : n0 ≤ b3365 := Nat.le_trans z3361 (Nat.le_of_eq g3365.symm)
  have sz3371 : h0.size ≤ b3365 := Nat.le_trans K3362.1 (Nat.le_of_eq g3365.symm)
  have f3372 := f3349.ext E3365
  have f3373 := f3350.ext E3365
  have f3374 := f3351.ext E3365
  have f3375 := f3352.ext E3365
  have f3376 := f3353.ext E3365
  have f3377 := f3354.ext E3365
  have f3378 := f3355.ext E3365
  have f3379 := f3356.ext E3365
  have f3380 := f3357.ext E3365
  have f3381 := f3358.ext E3365
  have f3382 := f3359.ext E3365
  have f3383 := f3360.ext E3365
  have f3384 := f3363.ext E3365
  have z3385 := Nat.le_trans z3361 E3365.1
  have K3386 := K3362.ext E3365
  have f3387 : Arv Z h3365 b3365 k3365 .double (256 : Int32) [(.double (0 : UInt64)), (.double (0 : UInt64)), (.double (0 : UInt64))] (.double (0 : UInt64)) := (Arv.new A3365 (by decide)).pad (pad_rep [] (.double (0 : UInt64)) 3)
  refine own_putF X3365 hx hZ (host := "") hown (Or.inl (own_hw hw 17 rfl)) Via.refl e3365 f3373 f3372 (Or.inl (own_hw hw 18 rfl)) (own_hw hw 1 rfl) (ty := (.array .double)) (by decide) rfl rfl 40 rfl (hb hby own_d1_37) fun T3388 h3388 X3388 e3388 W3388 => ?_
  have f3389 := f3372.wr W3388
  have f3390 := f3374.other W3388 (Or.inr (slot_ne (Or.inl (own_hw hw 20 rfl)) (Or.inl (own_hw hw 18 rfl)) (by decide) (t := (.array .int)) (t' := (.array .double)) (by decide) (by decide)))
  have f3391 := f3375.other W3388 (Or.inr (slot_ne (Or.inl (own_hw hw 27 rfl)) (Or.inl (own_hw hw 18 rfl)) (by decide) (t := .int) (t' := (.array .double)) (by decide) (by decide)))
  have f3392 := f3376.wr W3388
  have f3393 := f3377.other W3388 (Ne.symm ne3270)
  have f3394 := f3378.other W3388 (Or.inr (slot_ne (Or.inl (own_hw hw 11 rfl)) (Or.inl (own_hw hw 18 rfl)) (by decide) (t := (.array .int)) (t' := (.array .double)) (by decide) (by decide)))
  have f3395 := f3379.wr W3388
  have f3396 := f3380.other W3388 (Ne.symm ne3297)
  have f3397 := f3381.other W3388 (Or.inr (slot_ne (Or.inl (own_hw hw 13 rfl)) (Or.inl (own_hw hw 18 rfl)) (by decide) (t := (.array .int)) (t' := (.array .double)) (by decide) (by decide)))
  have f3398 := f3382.wr W3388
  have f3399 := f3383.other W3388 (Ne.symm ne3329)
  have f3400 := f3384.other W3388 (Or.inr (slot_ne (Or.inl (own_hw hw 15 rfl)) (Or.inl (own_hw hw 18 rfl)) (by decide) (t := (.array .int)) (t' := (.array .double)) (by decide) (by decide)))
  have f3401 := C3365.wr W3388
  have f3402 := f3387.other W3388 (Ne.symm ne3366)
  have z3403 := Nat.le_trans z3385 (Keep.of_wr W3388).1
  have K3404 := K3386.wr W3388 (Or.inl (List.mem_of_getElem? (i := 0) rfl))
  have f3405 := f3373.same W3388
  have N3406 := Fr.snoc X3388 N3364 g_o
  refine own_aloadN X3388 hx 41 rfl (hb hby own_d1_40) rfl rfl ?_
  refine own_iconst X3388 hx 42 rfl (hb hby own_d1_41) (1 : Int32) rfl ?_
  refine own_newA X3388 hx hZ (own_hw hw 9 rfl) e3388 44 rfl (hb hby own_d1_42) (by decide) 1 (by decide) (by decide) (by decide) (by decide) "[I" (by decide) fun T3407 h3407 k3407 b3407 g3407 X3407 e3407 E3407 A3407 C3407 => ?_
  have ne3408 : o ≠ b3407 := Nat.ne_of_lt (Nat.lt_of_lt_of_le f3389.lt (Nat.le_of_eq g3407.symm))
  have ne3409 : b3269 ≠ b3407 := Nat.ne_of_lt (Nat.lt_of_lt_of_le f3392.lt (Nat.le_of_eq g3407.symm))
  have ne3410 : b3296 ≠ b3407 := Nat.ne_of_lt (Nat.lt_of_lt_of_le f3395.lt (Nat.le_of_eq g3407.symm))
  have ne3411 : b3328 ≠ b3407 := Nat.ne_of_lt (Nat.lt_of_lt_of_le f3398.lt (Nat.le_of_eq g3407.symm))
  have ne3412 : b3365 ≠ b3407 := Nat.ne_of_lt (Nat.lt_of_lt_of_le f3401.lt (Nat.le_of_eq g3407.symm))
  have ge3413 : n0 ≤ b3407 := Nat.le_trans z3403 (Nat.le_of_eq g3407.symm)
  have sz3414 : h0.size ≤ b3407 := Nat.le_trans K3404.1 (Nat.le_of_eq g3407.symm)
  have f3415 := f3389.ext E3407
  have f3416 := f3390.ext E3407
  have f3417 := f3391.ext E3407
  have f3418 := f3392.ext E3407
  have f3419 := f3393.ext E3407
  have f3420 := f3394.ext E3407
  have f3421 := f3395.ext E3407
  have f3422 := f3396.ext E3407
  have f3423 := f3397.ext E3407
  have f3424 := f3398.ext E3407
  have f3425 := f3399.ext E3407
  have f3426 := f3400.ext E3407
  have f3427 := f3401.ext E3407
  have f3428 := f3402.ext E3407
  have f3429 := f3405.ext E3407
  have z3430 := Nat.le_trans z3403 E3407.1
  have K3431 := K3404.ext E3407
  have f3432 : Arv Z h3407 b3407 k3407 .int (1 : Int32) [(.int (0 : Int32))] (.int (0 : Int32)) := (Arv.new A3407 (by decide)).pad (pad_rep [] (.int (0 : Int32)) 1)
  refine own_putF X3407 hx hZ (host := "") hown (Or.inl (own_hw hw 19 rfl)) Via.refl e3407 f3416 f3415 (Or.inl (own_hw hw 20 rfl)) (own_hw hw 1 rfl) (ty := (.array .int)) (by decide) rfl rfl 47 rfl (hb hby own_d1_44) fun T3433 h3433 X3433 e3433 W3433 => ?_
  have f3434 := f3415.wr W3433
  have f3435 := f3417.other W3433 (Or.inr (slot_ne (Or.inl (own_hw hw 27 rfl)) (Or.inl (own_hw hw 20 rfl)) (by decide) (t := .int) (t' := (.array .int)) (by decide) (by decide)))
  have f3436 := f3418.wr W3433
  have f3437 := f3419.other W3433 (Ne.symm ne3270)
  have f3438 := f3420.other W3433 (Or.inr (slot_ne (Or.inl (own_hw hw 11 rfl)) (Or.inl (own_hw hw 20 rfl)) (by decide) (t := (.array .int)) (t' := (.array .int)) (by decide) (by decide)))
  have f3439 := f3421.wr W3433
  have f3440 := f3422.other W3433 (Ne.symm ne3297)
  have f3441 := f3423.other W3433 (Or.inr (slot_ne (Or.inl (own_hw hw 13 rfl)) (Or.inl (own_hw hw 20 rfl)) (by decide) (t := (.array .int)) (t' := (.array .int)) (by decide) (by decide)))
  have f3442 := f3424.wr W3433
  have f3443 := f3425.other W3433 (Ne.symm ne3329)
  have f3444 := f3426.other W3433 (Or.inr (slot_ne (Or.inl (own_hw hw 15 rfl)) (Or.inl (own_hw hw 20 rfl)) (by decide) (t := (.array .int)) (t' := (.array .int)) (by decide) (by decide)))
  have f3445 := f3427.wr W3433
  have f3446 := f3428.other W3433 (Ne.symm ne3366)
  have f3447 := f3429.other W3433 (Or.inr (slot_ne (Or.inl (own_hw hw 18 rfl)) (Or.inl (own_hw hw 20 rfl)) (by decide) (t := (.array .double)) (t' := (.array .int)) (by decide) (by decide)))
  have f3448 := C3407.wr W3433
  have f3449 := f3432.other W3433 (Ne.symm ne3408)
  have z3450 := Nat.le_trans z3430 (Keep.of_wr W3433).1
  have K3451 := K3431.wr W3433 (Or.inl (List.mem_of_getElem? (i := 0) rfl))
  have f3452 := f3416.same W3433
  have N3453 := Fr.snoc X3433 N3406 g_o
  refine own_ret X3433 none (fun _ => rfl) Bd.notSynchronized (by decide) (by decide) ?_ (fun fs hr => X3433.returnOut hx Bd.returns (hb hby own_d1_47) hr)
  show Q_rm_init Z o h0 n0 _ T3433.heap _
  rw [e3433]
  exact ⟨b3269, b3296, b3328, b3365, b3407, k3269, k3296, k3328, k3365, k3407, rfl, N3453, K3451, f3438, f3441, f3444, f3447, f3452, f3435, f3437, f3440, f3443, f3446, f3449, ge3271, ge3299, ge3332, ge3370, ge3413, ne3270, ne3297, ne3329, ne3366, ne3298, ne3330, ne3367, ne3331, ne3368, ne3369, ne3408, ne3409, ne3410, ne3411, ne3412⟩
theorem own_ef_rm_clear (m : MethodId) (o : Addr) : entryFrame m #[(.ref o)] 1 = mkF m 0 #[.val (.ref o)] [] := by first | (simp [entryFrame, mkF, argsToLocals, Value.category]; done) | rfl
def Q_rm_clear (Z : State) (o : Addr) (z : Int32) (h0 : Heap) (n0 : Nat) (v : Option Value) (h : Heap) (L : List Loc) : Prop := v = none ∧ Fr n0 L ∧ Keep h0 h [o] ∧ Fld Z h o "com/example/prizepath/prizepath/Insertions" "size" "I" (.int (0 : Int32))
theorem own_d3_0 : decode prog_15_method_4_code 0 = .ok (.aload_n 0, 1) := by decide +kernel
theorem own_d3_1 : decode prog_15_method_4_code 1 = .ok (.iconst 0, 1) := by decide +kernel
theorem own_d3_2 : decode prog_15_method_4_code 2 = .ok (.putfield 28, 3) := by decide +kernel
theorem own_d3_5 : decode prog_15_method_4_code 5 = .ok (.return_, 1) := by decide +kernel
set_option maxRecDepth 65536 in
set_option maxHeartbeats 40000000 in
theorem rm_clear (l : Launch) (Z : State) (a0 : Array Value) (hw : ∀ d ∈ tables_1, d.before a0 Z = true) (ws : List Jvm.Cond) (o : Addr) (z : Int32) (h0 : Heap) (n0 : Nat) (Z0 : n0 ≤ h0.size) (E0 : Exa Z h0 o "com/example/prizepath/prizepath/Insertions") (FZ : Fld Z h0 o "com/example/prizepath/prizepath/Insertions" "size" "I" (.int z)) (g_o : n0 ≤ o) :
    MetFree l (⟨"com/example/prizepath/prizepath/Insertions", "clear", "()V"⟩ : MethodName) (head1 (Jvm.Cond.code (⟨"com/example/prizepath/prizepath/Insertions", "clear", "()V"⟩ : MethodName) prog_15_method_4_code 1 none :: ws) ({ frames := 0, cells := 0, slots := 0, locals := 0 } : Room)) (fun aa U => aa = #[(.ref o)] ∧ Z.Warmed39 U.vm ∧ U.heap = h0) (fun _ _ _ _ _ => True) (fun _ U ou U' => ∃ v L, ou = .returned v ∧ Q_rm_clear Z o z h0 n0 v U'.heap L ∧ FrameEnd U ou U' L ({ frames := 0, cells := 0, slots := 0, locals := 0 } : Room).cells ({ frames := 0, cells := 0, slots := 0, locals := 0 } : Room).slots) := by
  refine MetFree.of_bodySF (plainFor_of_name own_pn2) hisR ?_
  intro p e s m args below meth c s₁ Bd hml0 hP hK
  obtain ⟨rfl, hZ, hh⟩ := hP
  have hx := Bd.exec
  have hby := Bd.bytes
  have hml : c.maxLocals = 1 := hml0
  have hown : s.vm.findClass "com/example/prizepath/prizepath/Insertions" = some m.cls := findClass_of_methodNamed Bd.named
  have hnm := (name_of_methodNamed Bd.named Bd.method).1
  have X0 : Stand p l e ({ frames := 0, cells := 0, slots := 0, locals := 0 } : Room) s m #[(.ref o)] below meth c s₁ [] 0 0 := Stand.of_body Bd
  have e0 : s₁.heap = h0 := by rw [← hh, Bd.state]; rfl
  have N0 := Fr.nil n0
  have K0 := Keep.refl h0 [o]
  show own_Go p e below (fun o u L => FrameEnd s o u L ({ frames := 0, cells := 0, slots := 0, locals := 0 } : Room).cells ({ frames := 0, cells := 0, slots := 0, locals := 0 } : Room).slots) (Q_rm_clear Z o z h0 n0) (s₁.setTop (entryFrame m #[(.ref o)] 1))
  rw [own_ef_rm_clear m o]
  show own_Go _ _ _ _ _ (State.setTop _ (mkF _ 0 #[.val (.ref o)] []))
  refine own_aloadN X0 hx 1 rfl (hb hby own_d3_0) rfl rfl ?_
  refine own_iconst X0 hx 2 rfl (hb hby own_d3_1) (0 : Int32) rfl ?_
  refine own_putF X0 hx hZ (host := "") hown (Or.inl (own_hw hw 26 rfl)) Via.refl e0 FZ E0 (Or.inl (own_hw hw 27 rfl)) (own_hw hw 1 rfl) (ty := .int) (by decide) rfl rfl 5 rfl (hb hby own_d3_2) fun T3454 h3454 X3454 e3454 W3454 => ?_
  have f3455 := E0.wr W3454
  have z3456 := Nat.le_trans Z0 (Keep.of_wr W3454).1
  have K3457 := K0.wr W3454 (Or.inl (List.mem_of_getElem? (i := 0) rfl))
  have f3458 := FZ.same W3454
  have N3459 := Fr.snoc X3454 N0 g_o
  refine own_ret X3454 none (fun _ => rfl) Bd.notSynchronized (by decide) (by decide) ?_ (fun fs hr => X3454.returnOut hx Bd.returns (hb hby own_d3_5) hr)
  show Q_rm_clear Z o z h0 n0 _ T3454.heap _
  rw [e3454]
  exact ⟨rfl, N3459, K3457, f3458⟩
theorem own_ef_rm_empty0 (m : MethodId) (o : Addr) : entryFrame m #[(.ref o)] 1 = mkF m 0 #[.val (.ref o)] [] := by first | (simp [entryFrame, mkF, argsToLocals, Value.category]; done) | rfl
def Q_rm_empty0 (Z : State) (o : Addr) (h0 : Heap) (n0 : Nat) (v : Option Value) (h : Heap) (L : List Loc) : Prop := v = some (.int (1 : Int32)) ∧ Fr n0 L ∧ h = h0
theorem own_d4_0 : decode prog_15_method_3_code 0 = .ok (.aload_n 0, 1) := by decide +kernel
theorem own_d4_1 : decode prog_15_method_3_code 1 = .ok (.getfield 28, 3) := by decide +kernel
theorem own_d4_4 : decode prog_15_method_3_code 4 = .ok (.ifCond .ne 7, 3) := by decide +kernel
theorem own_d4_7 : decode prog_15_method_3_code 7 = .ok (.iconst 1, 1) := by decide +kernel
theorem own_d4_8 : decode prog_15_method_3_code 8 = .ok (.goto 4, 3) := by decide +kernel
theorem own_d4_12 : decode prog_15_method_3_code 12 = .ok (.ireturn, 1) := by decide +kernel
set_option maxRecDepth 65536 in
set_option maxHeartbeats 40000000 in
theorem rm_empty0 (l : Launch) (Z : State) (a0 : Array Value) (hw : ∀ d ∈ tables_1, d.before a0 Z = true) (ws : List Jvm.Cond) (o : Addr) (h0 : Heap) (n0 : Nat) (Z0 : n0 ≤ h0.size) (FZ : Fld Z h0 o "com/example/prizepath/prizepath/Insertions" "size" "I" (.int (0 : Int32))) :
    MetFree l (⟨"com/example/prizepath/prizepath/Insertions", "isEmpty", "()Z"⟩ : MethodName) (head1 (Jvm.Cond.code (⟨"com/example/prizepath/prizepath/Insertions", "isEmpty", "()Z"⟩ : MethodName) prog_15_method_3_code 1 (some .boolean) :: ws) ({ frames := 0, cells := 0, slots := 0, locals := 0 } : Room)) (fun aa U => aa = #[(.ref o)] ∧ Z.Warmed39 U.vm ∧ U.heap = h0) (fun _ _ _ _ _ => True) (fun _ U ou U' => ∃ v L, ou = .returned v ∧ Q_rm_empty0 Z o h0 n0 v U'.heap L ∧ FrameEnd U ou U' L ({ frames := 0, cells := 0, slots := 0, locals := 0 } : Room).cells ({ frames := 0, cells := 0, slots := 0, locals := 0 } : Room).slots) := by
  refine MetFree.of_bodySF (plainFor_of_name own_pn2) hisR ?_
  intro p e s m args below meth c s₁ Bd hml0 hP hK
  obtain ⟨rfl, hZ, hh⟩ := hP
  have hx := Bd.exec
  have hby := Bd.bytes
  have hml : c.maxLocals = 1 := hml0
  have hown : s.vm.findClass "com/example/prizepath/prizepath/Insertions" = some m.cls := findClass_of_methodNamed Bd.named
  have hnm := (name_of_methodNamed Bd.named Bd.method).1
  have X0 : Stand p l e ({ frames := 0, cells := 0, slots := 0, locals := 0 } : Room) s m #[(.ref o)] below meth c s₁ [] 0 0 := Stand.of_body Bd
  have e0 : s₁.heap = h0 := by rw [← hh, Bd.state]; rfl
  have N0 := Fr.nil n0
  show own_Go p e below (fun o u L => FrameEnd s o u L ({ frames := 0, cells := 0, slots := 0, locals := 0 } : Room).cells ({ frames := 0, cells := 0, slots := 0, locals := 0 } : Room).slots) (Q_rm_empty0 Z o h0 n0) (s₁.setTop (entryFrame m #[(.ref o)] 1))
  rw [own_ef_rm_empty0 m o]
  show own_Go _ _ _ _ _ (State.setTop _ (mkF _ 0 #[.val (.ref o)] []))
  refine own_aloadN X0 hx 1 rfl (hb hby own_d4_0) rfl rfl ?_
  refine own_getF X0 hx hZ (host := "") hown (Or.inl (own_hw hw 26 rfl)) Via.refl e0 FZ 4 rfl (hb hby own_d4_1) fun T3460 X3460 e3460 => ?_
  refine own_ifNo X3460 hx 7 rfl (hb hby own_d4_4) (by decide) ?_
  refine own_iconst X3460 hx 8 rfl (hb hby own_d4_7) (1 : Int32) rfl ?_
  refine own_goto X3460 hx 12 (hb hby own_d4_8) (by decide) rfl ?_
  refine own_ret X3460 (some (.int (1 : Int32))) (fun h => by rw [Bd.returns] at h; cases h) Bd.notSynchronized (by decide) (by decide) ?_ (fun fs hr => retN X3460 hx (t := .boolean) Bd.returns (by simp) (hb hby own_d4_12) hr)
  show Q_rm_empty0 Z o h0 n0 _ T3460.heap _
  rw [e3460]
  exact ⟨rfl, N0, rfl⟩
theorem own_ef_rm_empty1 (m : MethodId) (o : Addr) : entryFrame m #[(.ref o)] 1 = mkF m 0 #[.val (.ref o)] [] := by first | (simp [entryFrame, mkF, argsToLocals, Value.category]; done) | rfl
def Q_rm_empty1 (Z : State) (o : Addr) (h0 : Heap) (n0 : Nat) (v : Option Value) (h : Heap) (L : List Loc) : Prop := v = some (.int (0 : Int32)) ∧ Fr n0 L ∧ h = h0
theorem own_d4_11 : decode prog_15_method_3_code 11 = .ok (.iconst 0, 1) := by decide +kernel
set_option maxRecDepth 65536 in
set_option maxHeartbeats 40000000 in
theorem rm_empty1 (l : Launch) (Z : State) (a0 : Array Value) (hw : ∀ d ∈ tables_1, d.before a0 Z = true) (ws : List Jvm.Cond) (o : Addr) (h0 : Heap) (n0 : Nat) (Z0 : n0 ≤ h0.size) (FZ : Fld Z h0 o "com/example/prizepath/prizepath/Insertions" "size" "I" (.int (1 : Int32))) :
    MetFree l (⟨"com/example/prizepath/prizepath/Insertions", "isEmpty", "()Z"⟩ : MethodName) (head1 (Jvm.Cond.code (⟨"com/example/prizepath/prizepath/Insertions", "isEmpty", "()Z"⟩ : MethodName) prog_15_method_3_code 1 (some .boolean) :: ws) ({ frames := 0, cells := 0, slots := 0, locals := 0 } : Room)) (fun aa U => aa = #[(.ref o)] ∧ Z.Warmed39 U.vm ∧ U.heap = h0) (fun _ _ _ _ _ => True) (fun _ U ou U' => ∃ v L, ou = .returned v ∧ Q_rm_empty1 Z o h0 n0 v U'.heap L ∧ FrameEnd U ou U' L ({ frames := 0, cells := 0, slots := 0, locals := 0 } : Room).cells ({ frames := 0, cells := 0, slots := 0, locals := 0 } : Room).slots) := by
  refine MetFree.of_bodySF (plainFor_of_name own_pn2) hisR ?_
  intro p e s m args below meth c s₁ Bd hml0 hP hK
  obtain ⟨rfl, hZ, hh⟩ := hP
  have hx := Bd.exec
  have hby := Bd.bytes
  have hml : c.maxLocals = 1 := hml0
  have hown : s.vm.findClass "com/example/prizepath/prizepath/Insertions" = some m.cls := findClass_of_methodNamed Bd.named
  have hnm := (name_of_methodNamed Bd.named Bd.method).1
  have X0 : Stand p l e ({ frames := 0, cells := 0, slots := 0, locals := 0 } : Room) s m #[(.ref o)] below meth c s₁ [] 0 0 := Stand.of_body Bd
  have e0 : s₁.heap = h0 := by rw [← hh, Bd.state]; rfl
  have N0 := Fr.nil n0
  show own_Go p e below (fun o u L => FrameEnd s o u L ({ frames := 0, cells := 0, slots := 0, locals := 0 } : Room).cells ({ frames := 0, cells := 0, slots := 0, locals := 0 } : Room).slots) (Q_rm_empty1 Z o h0 n0) (s₁.setTop (entryFrame m #[(.ref o)] 1))
  rw [own_ef_rm_empty1 m o]
  show own_Go _ _ _ _ _ (State.setTop _ (mkF _ 0 #[.val (.ref o)] []))
  refine own_aloadN X0 hx 1 rfl (hb hby own_d4_0) rfl rfl ?_
  refine own_getF X0 hx hZ (host := "") hown (Or.inl (own_hw hw 26 rfl)) Via.refl e0 FZ 4 rfl (hb hby own_d4_1) fun T3461 X3461 e3461 => ?_
  refine own_ifYes X3461 hx 11 (hb hby own_d4_4) (by decide) (by decide) rfl ?_
  refine own_iconst X3461 hx 12 rfl (hb hby own_d4_11) (0 : Int32) rfl ?_
  refine own_ret X3461 (some (.int (0 : Int32))) (fun h => by rw [Bd.returns] at h; cases h) Bd.notSynchronized (by decide) (by decide) ?_ (fun fs hr => retN X3461 hx (t := .boolean) Bd.returns (by simp) (hb hby own_d4_12) hr)
  show Q_rm_empty1 Z o h0 n0 _ T3461.heap _
  rw [e3461]
  exact ⟨rfl, N0, rfl⟩
theorem own_ef_rm_empty2 (m : MethodId) (o : Addr) : entryFrame m #[(.ref o)] 1 = mkF m 0 #[.val (.ref o)] [] := by first | (simp [entryFrame, mkF, argsToLocals, Value.category]; done) | rfl
def Q_rm_empty2 (Z : State) (o : Addr) (h0 : Heap) (n0 : Nat) (v : Option Value) (h : Heap) (L : List Loc) : Prop := v = some (.int (0 : Int32)) ∧ Fr n0 L ∧ h = h0
set_option maxRecDepth 65536 in
set_option maxHeartbeats 40000000 in
theorem rm_empty2 (l : Launch) (Z : State) (a0 : Array Value) (hw : ∀ d ∈ tables_1, d.before a0 Z = true) (ws : List Jvm.Cond) (o : Addr) (h0 : Heap) (n0 : Nat) (Z0 : n0 ≤ h0.size) (FZ : Fld Z h0 o "com/example/prizepath/prizepath/Insertions" "size" "I" (.int (2 : Int32))) :
    MetFree l (⟨"com/example/prizepath/prizepath/Insertions", "isEmpty", "()Z"⟩ : MethodName) (head1 (Jvm.Cond.code (⟨"com/example/prizepath/prizepath/Insertions", "isEmpty", "()Z"⟩ : MethodName) prog_15_method_3_code 1 (some .boolean) :: ws) ({ frames := 0, cells := 0, slots := 0, locals := 0 } : Room)) (fun aa U => aa = #[(.ref o)] ∧ Z.Warmed39 U.vm ∧ U.heap = h0) (fun _ _ _ _ _ => True) (fun _ U ou U' => ∃ v L, ou = .returned v ∧ Q_rm_empty2 Z o h0 n0 v U'.heap L ∧ FrameEnd U ou U' L ({ frames := 0, cells := 0, slots := 0, locals := 0 } : Room).cells ({ frames := 0, cells := 0, slots := 0, locals := 0 } : Room).slots) := by
  refine MetFree.of_bodySF (plainFor_of_name own_pn2) hisR ?_
  intro p e s m args below meth c s₁ Bd hml0 hP hK
  obtain ⟨rfl, hZ, hh⟩ := hP
  have hx := Bd.exec
  have hby := Bd.bytes
  have hml : c.maxLocals = 1 := hml0
  have hown : s.vm.findClass "com/example/prizepath/prizepath/Insertions" = some m.cls := findClass_of_methodNamed Bd.named
  have hnm := (name_of_methodNamed Bd.named Bd.method).1
  have X0 : Stand p l e ({ frames := 0, cells := 0, slots := 0, locals := 0 } : Room) s m #[(.ref o)] below meth c s₁ [] 0 0 := Stand.of_body Bd
  have e0 : s₁.heap = h0 := by rw [← hh, Bd.state]; rfl
  have N0 := Fr.nil n0
  show own_Go p e below (fun o u L => FrameEnd s o u L ({ frames := 0, cells := 0, slots := 0, locals := 0 } : Room).cells ({ frames := 0, cells := 0, slots := 0, locals := 0 } : Room).slots) (Q_rm_empty2 Z o h0 n0) (s₁.setTop (entryFrame m #[(.ref o)] 1))
  rw [own_ef_rm_empty2 m o]
  show own_Go _ _ _ _ _ (State.setTop _ (mkF _ 0 #[.val (.ref o)] []))
  refine own_aloadN X0 hx 1 rfl (hb hby own_d4_0) rfl rfl ?_
  refine own_getF X0 hx hZ (host := "") hown (Or.inl (own_hw hw 26 rfl)) Via.refl e0 FZ 4 rfl (hb hby own_d4_1) fun T3462 X3462 e3462 => ?_
  refine own_ifYes X3462 hx 11 (hb hby own_d4_4) (by decide) (by decide) rfl ?_
  refine own_iconst X3462 hx 12 rfl (hb hby own_d4_11) (0 : Int32) rfl ?_
  refine own_ret X3462 (some (.int (0 : Int32))) (fun h => by rw [Bd.returns] at h; cases h) Bd.notSynchronized (by decide) (by decide) ?_ (fun fs hr => retN X3462 hx (t := .boolean) Bd.returns (by simp) (hb hby own_d4_12) hr)
  show Q_rm_empty2 Z o h0 n0 _ T3462.heap _
  rw [e3462]
  exact ⟨rfl, N0, rfl⟩
theorem own_ef_rm_empty3 (m : MethodId) (o : Addr) : entryFrame m #[(.ref o)] 1 = mkF m 0 #[.val (.ref o)] [] := by first | (simp [entryFrame, mkF, argsToLocals, Value.category]; done) | rfl
def Q_rm_empty3 (Z : State) (o : Addr) (h0 : Heap) (n0 : Nat) (v : Option Value) (h : Heap) (L : List Loc) : Prop := v = some (.int (0 : Int32)) ∧ Fr n0 L ∧ h = h0
set_option maxRecDepth 65536 in
set_option maxHeartbeats 40000000 in
theorem rm_empty3 (l : Launch) (Z : State) (a0 : Array Value) (hw : ∀ d ∈ tables_1, d.before a0 Z = true) (ws : List Jvm.Cond) (o : Addr) (h0 : Heap) (n0 : Nat) (Z0 : n0 ≤ h0.size) (FZ : Fld Z h0 o "com/example/prizepath/prizepath/Insertions" "size" "I" (.int (3 : Int32))) :
    MetFree l (⟨"com/example/prizepath/prizepath/Insertions", "isEmpty", "()Z"⟩ : MethodName) (head1 (Jvm.Cond.code (⟨"com/example/prizepath/prizepath/Insertions", "isEmpty", "()Z"⟩ : MethodName) prog_15_method_3_code 1 (some .boolean) :: ws) ({ frames := 0, cells := 0, slots := 0, locals := 0 } : Room)) (fun aa U => aa = #[(.ref o)] ∧ Z.Warmed39 U.vm ∧ U.heap = h0) (fun _ _ _ _ _ => True) (fun _ U ou U' => ∃ v L, ou = .returned v ∧ Q_rm_empty3 Z o h0 n0 v U'.heap L ∧ FrameEnd U ou U' L ({ frames := 0, cells := 0, slots := 0, locals := 0 } : Room).cells ({ frames := 0, cells := 0, slots := 0, locals := 0 } : Room).slots) := by
  refine MetFree.of_bodySF (plainFor_of_name own_pn2) hisR ?_
  intro p e s m args below meth c s₁ Bd hml0 hP hK
  obtain ⟨rfl, hZ, hh⟩ := hP
  have hx := Bd.exec
  have hby := Bd.bytes
  have hml : c.maxLocals = 1 := hml0
  have hown : s.vm.findClass "com/example/prizepath/prizepath/Insertions" = some m.cls := findClass_of_methodNamed Bd.named
  have hnm := (name_of_methodNamed Bd.named Bd.method).1
  have X0 : Stand p l e ({ frames := 0, cells := 0, slots := 0, locals := 0 } : Room) s m #[(.ref o)] below meth c s₁ [] 0 0 := Stand.of_body Bd
  have e0 : s₁.heap = h0 := by rw [← hh, Bd.state]; rfl
  have N0 := Fr.nil n0
  show own_Go p e below (fun o u L => FrameEnd s o u L ({ frames := 0, cells := 0, slots := 0, locals := 0 } : Room).cells ({ frames := 0, cells := 0, slots := 0, locals := 0 } : Room).slots) (Q_rm_empty3 Z o h0 n0) (s₁.setTop (entryFrame m #[(.ref o)] 1))
  rw [own_ef_rm_empty3 m o]
  show own_Go _ _ _ _ _ (State.setTop _ (mkF _ 0 #[.val (.ref o)] []))
  refine own_aloadN X0 hx 1 rfl (hb hby own_d4_0) rfl rfl ?_
  refine own_getF X0 hx hZ (host := "") hown (Or.inl (own_hw hw 26 rfl)) Via.refl e0 FZ 4 rfl (hb hby own_d4_1) fun T3463 X3463 e3463 => ?_
  refine own_ifYes X3463 hx 11 (hb hby own_d4_4) (by decide) (by decide) rfl ?_
  refine own_iconst X3463 hx 12 rfl (hb hby own_d4_11) (0 : Int32) rfl ?_
  refine own_ret X3463 (some (.int (0 : Int32))) (fun h => by rw [Bd.returns] at h; cases h) Bd.notSynchronized (by decide) (by decide) ?_ (fun fs hr => retN X3463 hx (t := .boolean) Bd.returns (by simp) (hb hby own_d4_12) hr)
  show Q_rm_empty3 Z o h0 n0 _ T3463.heap _
  rw [e3463]
  exact ⟨rfl, N0, rfl⟩
theorem own_ef_rm_size (m : MethodId) (o : Addr) : entryFrame m #[(.ref o)] 1 = mkF m 0 #[.val (.ref o)] [] := by first | (simp [entryFrame, mkF, argsToLocals, Value.category]; done) | rfl
def Q_rm_size (Z : State) (o : Addr) (u : Int32) (h0 : Heap) (n0 : Nat) (v : Option Value) (h : Heap) (L : List Loc) : Prop := v = some (.int u) ∧ Fr n0 L ∧ h = h0
theorem own_d5_0 : decode prog_15_method_2_code 0 = .ok (.aload_n 0, 1) := by decide +kernel
theorem own_d5_1 : decode prog_15_method_2_code 1 = .ok (.getfield 28, 3) := by decide +kernel
theorem own_d5_4 : decode prog_15_method_2_code 4 = .ok (.ireturn, 1) := by decide +kernel
set_option maxRecDepth 65536 in
set_option maxHeartbeats 40000000 in
theorem rm_size (l : Launch) (Z : State) (a0 : Array Value) (hw : ∀ d ∈ tables_1, d.before a0 Z = true) (ws : List Jvm.Cond) (o : Addr) (u : Int32) (h0 : Heap) (n0 : Nat) (Z0 : n0 ≤ h0.size) (F1 : Fld Z h0 o "com/example/prizepath/prizepath/Insertions" "size" "I" (.int u)) :
    MetFree l (⟨"com/example/prizepath/prizepath/Insertions", "size", "()I"⟩ : MethodName) (head1 (Jvm.Cond.code (⟨"com/example/prizepath/prizepath/Insertions", "size", "()I"⟩ : MethodName) prog_15_method_2_code 1 (some .int) :: ws) ({ frames := 0, cells := 0, slots := 0, locals := 0 } : Room)) (fun aa U => aa = #[(.ref o)] ∧ Z.Warmed39 U.vm ∧ U.heap = h0) (fun _ _ _ _ _ => True) (fun _ U ou U' => ∃ v L, ou = .returned v ∧ Q_rm_size Z o u h0 n0 v U'.heap L ∧ FrameEnd U ou U' L ({ frames := 0, cells := 0, slots := 0, locals := 0 } : Room).cells ({ frames := 0, cells := 0, slots := 0, locals := 0 } : Room).slots) := by
  refine MetFree.of_bodySF (plainFor_of_name own_pn2) hisR ?_
  intro p e s m args below meth c s₁ Bd hml0 hP hK
  obtain ⟨rfl, hZ, hh⟩ := hP
  have hx := Bd.exec
  have hby := Bd.bytes
  have hml : c.maxLocals = 1 := hml0
  have hown : s.vm.findClass "com/example/prizepath/prizepath/Insertions" = some m.cls := findClass_of_methodNamed Bd.named
  have hnm := (name_of_methodNamed Bd.named Bd.method).1
  have X0 : Stand p l e ({ frames := 0, cells := 0, slots := 0, locals := 0 } : Room) s m #[(.ref o)] below meth c s₁ [] 0 0 := Stand.of_body Bd
  have e0 : s₁.heap = h0 := by rw [← hh, Bd.state]; rfl
  have N0 := Fr.nil n0
  show own_Go p e below (fun o u L => FrameEnd s o u L ({ frames := 0, cells := 0, slots := 0, locals := 0 } : Room).cells ({ frames := 0, cells := 0, slots := 0, locals := 0 } : Room).slots) (Q_rm_size Z o u h0 n0) (s₁.setTop (entryFrame m #[(.ref o)] 1))
  rw [own_ef_rm_size m o]
  show own_Go _ _ _ _ _ (State.setTop _ (mkF _ 0 #[.val (.ref o)] []))
  refine own_aloadN X0 hx 1 rfl (hb hby own_d5_0) rfl rfl ?_
  refine own_getF X0 hx hZ (host := "") hown (Or.inl (own_hw hw 26 rfl)) Via.refl e0 F1 4 rfl (hb hby own_d5_1) fun T3464 X3464 e3464 => ?_
  refine own_ret X3464 (some (.int u)) (fun h => by rw [Bd.returns] at h; cases h) Bd.notSynchronized (by decide) (by decide) ?_ (fun fs hr => own_retI X3464 hx Bd.returns (hb hby own_d5_4) hr)
  show Q_rm_size Z o u h0 n0 _ T3464.heap _
  rw [e3464]
  exact ⟨rfl, N0, rfl⟩
theorem own_pn5 : plainName "com/example/prizepath/prizepath/InsertionsIsEmptyPinLaw" = true := by first | (simp [plainName, overriddenIn]; done) | decide +kernel
theorem own_ef_rm0 (m : MethodId) (i0 : Int32) (i1 : Int32) (i2 : Int32) (i3 : Int32) (i4 : Int32) (i5 : Int32) : entryFrame m #[(.int i0), (.int i1), (.int i2), (.int i3), (.int i4), (.int i5)] maxLocals = mkF m 0 #[.val (.int i0), .val (.int i1), .val (.int i2), .val (.int i3), .val (.int i4), .val (.int i5), .unset, .unset, .unset, .unset] [] := by first | (simp [entryFrame, mkF, argsToLocals, Value.category, maxLocals]; done) | rfl
def Q_rm0 (Z : State) (i0 : Int32) (i1 : Int32) (i2 : Int32) (i3 : Int32) (i4 : Int32) (i5 : Int32) (h0 : Heap) (n0 : Nat) (v : Option Value) (h : Heap) (L : List Loc) : Prop := v = some (.int 1) ∧ Fr n0 L
theorem own_pd9 : parseMethodDescriptor "()Z" = some ⟨[], some .boolean⟩ := by decide +kernel
theorem own_pd10 : parseMethodDescriptor "()I" = some ⟨[], some .int⟩ := by decide +kernel
theorem own_pd11 : parseMethodDescriptor "(IIID)V" = some ⟨[.int, .int, .int, .double], none⟩ := by decide +kernel
theorem own_pd12 : parseMethodDescriptor "(I)Lcom/example/prizepath/prizepath/Insertions$Insertion;" = some ⟨[.int], some (.object "com/example/prizepath/prizepath/Insertions$Insertion")⟩ := by decide +kernel
set_option maxRecDepth 65536 in
set_option maxHeartbeats 40000000 in
theorem rm0 (l : Launch) (Z : State) (a0 : Array Value) (hw : ∀ d ∈ tables_1, d.before a0 Z = true) (ws : List Jvm.Cond) (i0 : Int32) (i1 : Int32) (i2 : Int32) (i3 : Int32) (i4 : Int32) (i5 : Int32) (h0 : Heap) (n0 : Nat) (Z0 : n0 ≤ h0.size)  :
    MetFree l x (head1 (Jvm.Cond.code x code maxLocals ret :: ws) room_1) (fun aa U => aa = #[(.int i0), (.int i1), (.int i2), (.int i3), (.int i4), (.int i5)] ∧ Z.Warmed39 U.vm ∧ U.heap = h0) (fun _ _ _ _ _ => True) (fun _ U ou U' => ∃ v L, ou = .returned v ∧ Q_rm0 Z i0 i1 i2 i3 i4 i5 h0 n0 v U'.heap L ∧ FrameEnd U ou U' L room_1.cells room_1.slots) := by
  refine MetFree.of_bodySF (plainFor_of_name own_pn5) hisR ?_
  intro p e s m args below meth c s₁ Bd hml0 hP hK
  obtain ⟨rfl, hZ, hh⟩ := hP
  have hx := Bd.exec
  have hby := Bd.bytes
  have hml : c.maxLocals = 10 := hml0
  have hown : s.vm.findClass "com/example/prizepath/prizepath/InsertionsIsEmptyPinLaw" = some m.cls := findClass_of_methodNamed Bd.named
  have hnm := (name_of_methodNamed Bd.named Bd.method).1
  have X0 : Stand p l e room_1 s m #[(.int i0), (.int i1), (.int i2), (.int i3), (.int i4), (.int i5)] below meth c s₁ [] 0 0 := Stand.of_body Bd
  have e0 : s₁.heap = h0 := by rw [← hh, Bd.state]; rfl
  have N0 := Fr.nil n0
  show own_Go p e below (fun o u L => FrameEnd s o u L room_1.cells room_1.slots) (Q_rm0 Z i0 i1 i2 i3 i4 i5 h0 n0) (s₁.setTop (entryFrame m #[(.int i0), (.int i1), (.int i2), (.int i3), (.int i4), (.int i5)] maxLocals))
  rw [own_ef_rm0 m i0 i1 i2 i3 i4 i5]
  show own_Go _ _ _ _ _ (State.setTop _ (mkF _ 0 #[.val (.int i0), .val (.int i1), .val (.int i2), .val (.int i3), .val (.int i4), .val (.int i5), .unset, .unset, .unset, .unset] []))
  refine own_iloadN X0 hx 1 rfl (hb hby at_0) rfl ?_
  refine own_iconst X0 hx 2 rfl (hb hby at_1) (3 : Int32) rfl ?_
  refine own_iand X0 hx 3 rfl (hb hby at_2) _ rfl ?_
  have hk := own_k_rng i0
  rcases hk with hk | hk | hk | hk <;> rw [hk]
  ·
    show own_Go _ _ _ _ _ (State.setTop _ (mkF _ 3 #[.val (.int i0), .val (.int i1), .val (.int i2), .val (.int i3), .val (.int i4), .val (.int i5), .unset, .unset, .unset, .unset] [(.int (0 : Int32))]))
    refine own_istore X0 hx 5 rfl (hb hby at_3) #[.val (.int i0), .val (.int i1), .val (.int i2), .val (.int i3), .val (.int i4), .val (.int i5), .val (.int (0 : Int32)), .unset, .unset, .unset] rfl ?_
    refine own_new X0 hx hZ hown (own_hw hw 0 rfl) (own_hw hw 1 rfl) (own_hw hw 2 rfl) e0 8 rfl (hb hby at_5) (by decide) (by decide) fun T3465 h3465 b3465 g3465 X3465 e3465 E3465 A3465 D3465 => ?_
    have ge3466 : n0 ≤ b3465 := Nat.le_trans Z0 (Nat.le_of_eq g3465.symm)
    have z3467 := Nat.le_trans Z0 E3465.1
    have f3468 : Fld Z h3465 b3465 "com/example/prizepath/prizepath/Insertions" "customers" "[I" .null := D3465 (Or.inl (own_hw hw 11 rfl)) (ty := (.array .int)) (by decide)
    have f3469 : Fld Z h3465 b3465 "com/example/prizepath/prizepath/Insertions" "routes" "[I" .null := D3465 (Or.inl (own_hw hw 13 rfl)) (ty := (.array .int)) (by decide)
    have f3470 : Fld Z h3465 b3465 "com/example/prizepath/prizepath/Insertions" "places" "[I" .null := D3465 (Or.inl (own_hw hw 15 rfl)) (ty := (.array .int)) (by decide)
    have f3471 : Fld Z h3465 b3465 "com/example/prizepath/prizepath/Insertions" "ranks" "[D" .null := D3465 (Or.inl (own_hw hw 18 rfl)) (ty := (.array .double)) (by decide)
    have f3472 : Fld Z h3465 b3465 "com/example/prizepath/prizepath/Insertions" "kept" "[I" .null := D3465 (Or.inl (own_hw hw 20 rfl)) (ty := (.array .int)) (by decide)
    have f3473 : Fld Z h3465 b3465 "com/example/prizepath/prizepath/Insertions" "size" "I" (.int (0 : Int32)) := D3465 (Or.inl (own_hw hw 27 rfl)) (ty := .int) (by decide)
    refine own_dup X3465 hx 9 rfl (hb hby at_8) rfl ?_
    refine own_special X3465 hx hZ (y := (⟨"com/example/prizepath/prizepath/Insertions", "<init>", "()V"⟩ : MethodName)) hown rfl (own_hw hw 3 rfl) (own_hw hw 4 rfl) (a := b3465) (by decide) rfl (rm_init l Z a0 hw [] b3465 h3465 n0 z3467 A3465 f3468 f3469 f3470 f3471 f3472 f3473 ge3466) (own_hw hw 5 rfl) (own_hw hw 2 rfl) (by decide) e3465 (by rw [hml]; rfl) [] 1 (by decide) (Nat.le_of_eq rfl) (by decide) (by decide) (lenOf own_pd6 rfl) rfl rfl 12 rfl (hb hby at_9) fun v3474 T3474 Lc3474 X3474 hQ3474 => ?_
    obtain ⟨a1_3474, a2_3474, a3_3474, a4_3474, a5_3474, k1_3474, k2_3474, k3_3474, k4_3474, k5_3474, rfl, Nq3474, Kq3474, f3475, f3476, f3477, f3478, f3479, f3480, f3481, f3482, f3483, f3484, f3485, ge3486, ge3487, ge3488, ge3489, ge3490, ne3491, ne3492, ne3493, ne3494, ne3495, ne3496, ne3497, ne3498, ne3499, ne3500, ne3501, ne3502, ne3503, ne3504, ne3505⟩ := hQ3474
    have N3506 := Fr.app N0 Nq3474
    have f3507 := A3465.keep Kq3474
    have z3514 := Nat.le_trans z3467 Kq3474.1
    show own_Go _ _ _ _ _ (State.setTop _ (mkF _ 12 _ [(.ref b3465)]))
    refine own_astore X3474 hx 14 rfl (hb hby at_12) rfl #[.val (.int i0), .val (.int i1), .val (.int i2), .val (.int i3), .val (.int i4), .val (.int i5), .val (.int (0 : Int32)), .val (.ref b3465), .unset, .unset] rfl ?_
    refine own_iload X3474 hx 16 rfl (hb hby at_14) rfl ?_
    refine own_iconst X3474 hx 17 rfl (hb hby at_16) (1 : Int32) rfl ?_
    refine own_icmpYes X3474 hx 34 (hb hby at_17) (by decide) (by decide) rfl ?_
    refine own_iload X3474 hx 36 rfl (hb hby at_34) rfl ?_
    refine own_iconst X3474 hx 37 rfl (hb hby at_36) (2 : Int32) rfl ?_
    refine own_icmpYes X3474 hx 56 (hb hby at_37) (by decide) (by decide) rfl ?_
    refine own_iload X3474 hx 58 rfl (hb hby at_56) rfl ?_
    refine own_iconst X3474 hx 59 rfl (hb hby at_58) (3 : Int32) rfl ?_
    refine own_icmpYes X3474 hx 79 (hb hby at_59) (by decide) (by decide) rfl ?_
    refine own_iload X3474 hx 81 rfl (hb hby at_79) rfl ?_
    refine own_istore X3474 hx 83 rfl (hb hby at_81) #[.val (.int i0), .val (.int i1), .val (.int i2), .val (.int i3), .val (.int i4), .val (.int i5), .val (.int (0 : Int32)), .val (.ref b3465), .val (.int (0 : Int32)), .unset] rfl ?_
    refine own_iload X3474 hx 85 rfl (hb hby at_83) rfl ?_
    refine own_iconst X3474 hx 86 rfl (hb hby at_85) (1 : Int32) rfl ?_
    refine own_iand X3474 hx 87 rfl (hb hby at_86) _ rfl ?_
    by_cases hc3515 : (i5 &&& (1 : Int32)) = (0 : Int32)
    ·
      refine own_ifYes X3474 hx 121 (hb hby at_87) ((if0 _ _).trans (teq hc3515).1) (by decide) rfl ?_
      refine own_iload X3474 hx 123 rfl (hb hby at_121) rfl ?_
      refine own_iconst X3474 hx 124 rfl (hb hby at_123) (2 : Int32) rfl ?_
      refine own_iand X3474 hx 125 rfl (hb hby at_124) _ rfl ?_
      by_cases hc3516 : (i5 &&& (2 : Int32)) = (0 : Int32)
      ·
        refine own_ifYes X3474 hx 136 (hb hby at_125) ((if0 _ _).trans (teq hc3516).1) (by decide) rfl ?_
        refine own_aload X3474 hx 138 rfl (hb hby at_136) rfl rfl ?_
        refine own_virtual X3474 hx hZ (y := (⟨"com/example/prizepath/prizepath/Insertions", "isEmpty", "()Z"⟩ : MethodName)) (z := (⟨"com/example/prizepath/prizepath/Insertions", "isEmpty", "()Z"⟩ : MethodName)) hown (own_hw hw 28 rfl) (own_hw hw 29 rfl) (own_hw hw 31 rfl) (own_hw hw 30 rfl) rfl (a := b3465) f3507 (by decide) (rm_empty0 l Z a0 hw [] b3465 T3474.heap n0 z3514 f3480) (own_hw hw 32 rfl) (own_hw hw 2 rfl) (by decide) rfl (by rw [hml]; rfl) [] 0 (by decide) (Nat.le_of_eq rfl) (by decide) (by decide) (lenOf own_pd9 rfl) rfl rfl 141 rfl (hb hby at_138) fun v3517 T3517 Lc3517 X3517 hQ3517 => ?_
        obtain ⟨rfl, Nq3517, e3517⟩ := hQ3517
        have N3518 := Fr.app N3506 Nq3517
        show own_Go _ _ _ _ _ (State.setTop _ (mkF _ 141 _ [(.int (1 : Int32))]))
        refine own_istore X3517 hx 143 rfl (hb hby at_141) #[.val (.int i0), .val (.int i1), .val (.int i2), .val (.int i3), .val (.int i4), .val (.int i5), .val (.int (0 : Int32)), .val (.ref b3465), .val (.int (0 : Int32)), .val (.int (1 : Int32))] rfl ?_
        refine own_iload X3517 hx 145 rfl (hb hby at_143) rfl ?_
        refine own_iload X3517 hx 147 rfl (hb hby at_145) rfl ?_
        refine own_ifNo X3517 hx 150 rfl (hb hby at_147) (by decide) ?_
        refine own_iconst X3517 hx 151 rfl (hb hby at_150) (1 : Int32) rfl ?_
        refine own_goto X3517 hx 155 (hb hby at_151) (by decide) rfl ?_
        refine own_icmpNo X3517 hx 158 rfl (hb hby at_155) (by decide) ?_
        refine own_iload X3517 hx 160 rfl (hb hby at_158) rfl ?_
        refine own_aload X3517 hx 162 rfl (hb hby at_160) rfl rfl ?_
        refine own_virtual X3517 hx hZ (y := (⟨"com/example/prizepath/prizepath/Insertions", "size", "()I"⟩ : MethodName)) (z := (⟨"com/example/prizepath/prizepath/Insertions", "size", "()I"⟩ : MethodName)) hown (own_hw hw 33 rfl) (own_hw hw 34 rfl) (own_hw hw 36 rfl) (own_hw hw 35 rfl) rfl (a := b3465) f3507 (by decide) (rm_size l Z a0 hw [] b3465 (0 : Int32) T3474.heap n0 z3514 f3480) (own_hw hw 37 rfl) (own_hw hw 2 rfl) (by decide) e3517 (by rw [hml]; rfl) [] 1 (by decide) (Nat.le_of_eq rfl) (by decide) (by decide) (lenOf own_pd10 rfl) rfl rfl 165 rfl (hb hby at_162) fun v3519 T3519 Lc3519 X3519 hQ3519 => ?_
        obtain ⟨rfl, Nq3519, e3519⟩ := hQ3519
        have N3520 := Fr.app N3518 Nq3519
        show own_Go _ _ _ _ _ (State.setTop _ (mkF _ 165 _ [(.int (0 : Int32)), (.int (1 : Int32))]))
        refine own_ifNo X3519 hx 168 rfl (hb hby at_165) (by decide) ?_
        refine own_iconst X3519 hx 169 rfl (hb hby at_168) (1 : Int32) rfl ?_
        refine own_goto X3519 hx 173 (hb hby at_169) (by decide) rfl ?_
        refine own_icmpNo X3519 hx 176 rfl (hb hby at_173) (by decide) ?_
        refine own_iconst X3519 hx 177 rfl (hb hby at_176) (1 : Int32) rfl ?_
        refine own_goto X3519 hx 181 (hb hby at_177) (by decide) rfl ?_
        refine own_ret X3519 (some (.int (1 : Int32))) (fun h => by rw [Bd.returns] at h; cases h) Bd.notSynchronized (by decide) (by decide) ?_ (fun fs hr => retN X3519 hx (t := .boolean) Bd.returns (by simp) (hb hby at_181) hr)
        show Q_rm0 Z i0 i1 i2 i3 i4 i5 h0 n0 _ T3519.heap _
        rw [e3519]
        exact ⟨rfl, N3520⟩
      ·
        refine own_ifNo X3474 hx 128 rfl (hb hby at_125) ((if0 _ _).trans (feq hc3516).1) ?_
        refine own_aload X3474 hx 130 rfl (hb hby at_128) rfl rfl ?_
        refine own_virtual X3474 hx hZ (y := (⟨"com/example/prizepath/prizepath/Insertions", "clear", "()V"⟩ : MethodName)) (z := (⟨"com/example/prizepath/prizepath/Insertions", "clear", "()V"⟩ : MethodName)) hown (own_hw hw 21 rfl) (own_hw hw 22 rfl) (own_hw hw 24 rfl) (own_hw hw 23 rfl) rfl (a := b3465) f3507 (by decide) (rm_clear l Z a0 hw [] b3465 (0 : Int32) T3474.heap n0 z3514 f3507 f3480 ge3466) (own_hw hw 25 rfl) (own_hw hw 2 rfl) (by decide) rfl (by rw [hml]; rfl) [] 0 (by decide) (Nat.le_of_eq rfl) (by decide) (by decide) (lenOf own_pd6 rfl) rfl rfl 133 rfl (hb hby at_130) fun v3521 T3521 Lc3521 X3521 hQ3521 => ?_
        obtain ⟨rfl, Nq3521, Kq3521, f3522⟩ := hQ3521
        have N3523 := Fr.app N3506 Nq3521
        have f3524 := f3507.keep Kq3521
        have f3531 := f3481.keep Kq3521 (ninS (Ne.symm ne3491) nin0)
        have f3532 := f3482.keep Kq3521 (ninS (Ne.symm ne3492) nin0)
        have f3533 := f3483.keep Kq3521 (ninS (Ne.symm ne3493) nin0)
        have f3534 := f3484.keep Kq3521 (ninS (Ne.symm ne3494) nin0)
        have f3535 := f3485.keep Kq3521 (ninS (Ne.symm ne3501) nin0)
        have z3536 := Nat.le_trans z3514 Kq3521.1
        show own_Go _ _ _ _ _ (State.setTop _ (mkF _ 133 _ []))
        refine own_iconst X3521 hx 134 rfl (hb hby at_133) (0 : Int32) rfl ?_
        refine own_istore X3521 hx 136 rfl (hb hby at_134) #[.val (.int i0), .val (.int i1), .val (.int i2), .val (.int i3), .val (.int i4), .val (.int i5), .val (.int (0 : Int32)), .val (.ref b3465), .val (.int (0 : Int32)), .unset] rfl ?_
        refine own_aload X3521 hx 138 rfl (hb hby at_136) rfl rfl ?_
        refine own_virtual X3521 hx hZ (y := (⟨"com/example/prizepath/prizepath/Insertions", "isEmpty", "()Z"⟩ : MethodName)) (z := (⟨"com/example/prizepath/prizepath/Insertions", "isEmpty", "()Z"⟩ : MethodName)) hown (own_hw hw 28 rfl) (own_hw hw 29 rfl) (own_hw hw 31 rfl) (own_hw hw 30 rfl) rfl (a := b3465) f3524 (by decide) (rm_empty0 l Z a0 hw [] b3465 T3521.heap n0 z3536 f3522) (own_hw hw 32 rfl) (own_hw hw 2 rfl) (by decide) rfl (by rw [hml]; rfl) [] 0 (by decide) (Nat.le_of_eq rfl) (by decide) (by decide) (lenOf own_pd9 rfl) rfl rfl 141 rfl (hb hby at_138) fun v3537 T3537 Lc3537 X3537 hQ3537 => ?_
        obtain ⟨rfl, Nq3537, e3537⟩ := hQ3537
        have N3538 := Fr.app N3523 Nq3537
        show own_Go _ _ _ _ _ (State.setTop _ (mkF _ 141 _ [(.int (1 : Int32))]))
        refine own_istore X3537 hx 143 rfl (hb hby at_141) #[.val (.int i0), .val (.int i1), .val (.int i2), .val (.int i3), .val (.int i4), .val (.int i5), .val (.int (0 : Int32)), .val (.ref b3465), .val (.int (0 : Int32)), .val (.int (1 : Int32))] rfl ?_
        refine own_iload X3537 hx 145 rfl (hb hby at_143) rfl ?_
        refine own_iload X3537 hx 147 rfl (hb hby at_145) rfl ?_
        refine own_ifNo X3537 hx 150 rfl (hb hby at_147) (by decide) ?_
        refine own_iconst X3537 hx 151 rfl (hb hby at_150) (1 : Int32) rfl ?_
        refine own_goto X3537 hx 155 (hb hby at_151) (by decide) rfl ?_
        refine own_icmpNo X3537 hx 158 rfl (hb hby at_155) (by decide) ?_
        refine own_iload X3537 hx 160 rfl (hb hby at_158) rfl ?_
        refine own_aload X3537 hx 162 rfl (hb hby at_160) rfl rfl ?_
        refine own_virtual X3537 hx hZ (y := (⟨"com/example/prizepath/prizepath/Insertions", "size", "()I"⟩ : MethodName)) (z := (⟨"com/example/prizepath/prizepath/Insertions", "size", "()I"⟩ : MethodName)) hown (own_hw hw 33 rfl) (own_hw hw 34 rfl) (own_hw hw 36 rfl) (own_hw hw 35 rfl) rfl (a := b3465) f3524 (by decide) (rm_size l Z a0 hw [] b3465 (0 : Int32) T3521.heap n0 z3536 f3522) (own_hw hw 37 rfl) (own_hw hw 2 rfl) (by decide) e3537 (by rw [hml]; rfl) [] 1 (by decide) (Nat.le_of_eq rfl) (by decide) (by decide) (lenOf own_pd10 rfl) rfl rfl 165 rfl (hb hby at_162) fun v3539 T3539 Lc3539 X3539 hQ3539 => ?_
        obtain ⟨rfl, Nq3539, e3539⟩ := hQ3539
        have N3540 := Fr.app N3538 Nq3539
        show own_Go _ _ _ _ _ (State.setTop _ (mkF _ 165 _ [(.int (0 : Int32)), (.int (1 : Int32))]))
        refine own_ifNo X3539 hx 168 rfl (hb hby at_165) (by decide) ?_
        refine own_iconst X3539 hx 169 rfl (hb hby at_168) (1 : Int32) rfl ?_
        refine own_goto X3539 hx 173 (hb hby at_169) (by decide) rfl ?_
        refine own_icmpNo X3539 hx 176 rfl (hb hby at_173) (by decide) ?_
        refine own_iconst X3539 hx 177 rfl (hb hby at_176) (1 : Int32) rfl ?_
        refine own_goto X3539 hx 181 (hb hby at_177) (by decide) rfl ?_
        refine own_ret X3539 (some (.int (1 : Int32))) (fun h => by rw [Bd.returns] at h; cases h) Bd.notSynchronized (by decide) (by decide) ?_ (fun fs hr => retN X3539 hx (t := .boolean) Bd.returns (by simp) (hb hby at_181) hr)
        show Q_rm0 Z i0 i1 i2 i3 i4 i5 h0 n0 _ T3539.heap _
        rw [e3539]
        exact ⟨rfl, N3540⟩
    ·
      refine own_ifNo X3474 hx 90 rfl (hb hby at_87) ((if0 _ _).trans (feq hc3515).1) ?_
      refine own_iload X3474 hx 92 rfl (hb hby at_90) rfl ?_
      refine own_ifYes X3474 hx 121 (hb hby at_92) (by decide) (by decide) rfl ?_
      refine own_iload X3474 hx 123 rfl (hb hby at_121) rfl ?_
      refine own_iconst X3474 hx 124 rfl (hb hby at_123) (2 : Int32) rfl ?_
      refine own_iand X3474 hx 125 rfl (hb hby at_124) _ rfl ?_
      by_cases hc3541 : (i5 &&& (2 : Int32)) = (0 : Int32)
      ·
        refine own_ifYes X3474 hx 136 (hb hby at_125) ((if0 _ _).trans (teq hc3541).1) (by decide) rfl ?_
        refine own_aload X3474 hx 138 rfl (hb hby at_136) rfl rfl ?_
        refine own_virtual X3474 hx hZ (y := (⟨"com/example/prizepath/prizepath/Insertions", "isEmpty", "()Z"⟩ : MethodName)) (z := (⟨"com/example/prizepath/prizepath/Insertions", "isEmpty", "()Z"⟩ : MethodName)) hown (own_hw hw 28 rfl) (own_hw hw 29 rfl) (own_hw hw 31 rfl) (own_hw hw 30 rfl) rfl (a := b3465) f3507 (by decide) (rm_empty0 l Z a0 hw [] b3465 T3474.heap n0 z3514 f3480) (own_hw hw 32 rfl) (own_hw hw 2 rfl) (by decide) rfl (by rw [hml]; rfl) [] 0 (by decide) (Nat.le_of_eq rfl) (by decide) (by decide) (lenOf own_pd9 rfl) rfl rfl 141 rfl (hb hby at_138) fun v3542 T3542 Lc3542 X3542 hQ3542 => ?_
        obtain ⟨rfl, Nq3542, e3542⟩ := hQ3542
        have N3543 := Fr.app N3506 Nq3542
        show own_Go _ _ _ _ _ (State.setTop _ (mkF _ 141 _ [(.int (1 : Int32))]))
        refine own_istore X3542 hx 143 rfl (hb hby at_141) #[.val (.int i0), .val (.int i1), .val (.int i2), .val (.int i3), .val (.int i4), .val (.int i5), .val (.int (0 : Int32)), .val (.ref b3465), .val (.int (0 : Int32)), .val (.int (1 : Int32))] rfl ?_
        refine own_iload X3542 hx 145 rfl (hb hby at_143) rfl ?_
        refine own_iload X3542 hx 147 rfl (hb hby at_145) rfl ?_
        refine own_ifNo X3542 hx 150 rfl (hb hby at_147) (by decide) ?_
        refine own_iconst X3542 hx 151 rfl (hb hby at_150) (1 : Int32) rfl ?_
        refine own_goto X3542 hx 155 (hb hby at_151) (by decide) rfl ?_
        refine own_icmpNo X3542 hx 158 rfl (hb hby at_155) (by decide) ?_
        refine own_iload X3542 hx 160 rfl (hb hby at_158) rfl ?_
        refine own_aload X3542 hx 162 rfl (hb hby at_160) rfl rfl ?_
        refine own_virtual X3542 hx hZ (y := (⟨"com/example/prizepath/prizepath/Insertions", "size", "()I"⟩ : MethodName)) (z := (⟨"com/example/prizepath/prizepath/Insertions", "size", "()I"⟩ : MethodName)) hown (own_hw hw 33 rfl) (own_hw hw 34 rfl) (own_hw hw 36 rfl) (own_hw hw 35 rfl) rfl (a := b3465) f3507 (by decide) (rm_size l Z a0 hw [] b3465 (0 : Int32) T3474.heap n0 z3514 f3480) (own_hw hw 37 rfl) (own_hw hw 2 rfl) (by decide) e3542 (by rw [hml]; rfl) [] 1 (by decide) (Nat.le_of_eq rfl) (by decide) (by decide) (lenOf own_pd10 rfl) rfl rfl 165 rfl (hb hby at_162) fun v3544 T3544 Lc3544 X3544 hQ3544 => ?_
        obtain ⟨rfl, Nq3544, e3544⟩ := hQ3544
        have N3545 := Fr.app N3543 Nq3544
        show own_Go _ _ _ _ _ (State.setTop _ (mkF _ 165 _ [(.int (0 : Int32)), (.int (1 : Int32))]))
        refine own_ifNo X3544 hx 168 rfl (hb hby at_165) (by decide) ?_
        refine own_iconst X3544 hx 169 rfl (hb hby at_168) (1 : Int32) rfl ?_
        refine own_goto X3544 hx 173 (hb hby at_169) (by decide) rfl ?_
        refine own_icmpNo X3544 hx 176 rfl (hb hby at_173) (by decide) ?_
        refine own_iconst X3544 hx 177 rfl (hb hby at_176) (1 : Int32) rfl ?_
        refine own_goto X3544 hx 181 (hb hby at_177) (by decide) rfl ?_
        refine own_ret X3544 (some (.int (1 : Int32))) (fun h => by rw [Bd.returns] at h; cases h) Bd.notSynchronized (by decide) (by decide) ?_ (fun fs hr => retN X3544 hx (t := .boolean) Bd.returns (by simp) (hb hby at_181) hr)
        show Q_rm0 Z i0 i1 i2 i3 i4 i5 h0 n0 _ T3544.heap _
        rw [e3544]
        exact ⟨rfl, N3545⟩
      ·
        refine own_ifNo X3474 hx 128 rfl (hb hby at_125) ((if0 _ _).trans (feq hc3541).1) ?_
        refine own_aload X3474 hx 130 rfl (hb hby at_128) rfl rfl ?_
        refine own_virtual X3474 hx hZ (y := (⟨"com/example/prizepath/prizepath/Insertions", "clear", "()V"⟩ : MethodName)) (z := (⟨"com/example/prizepath/prizepath/Insertions", "clear", "()V"⟩ : MethodName)) hown (own_hw hw 21 rfl) (own_hw hw 22 rfl) (own_hw hw 24 rfl) (own_hw hw 23 rfl) rfl (a := b3465) f3507 (by decide) (rm_clear l Z a0 hw [] b3465 (0 : Int32) T3474.heap n0 z3514 f3507 f3480 ge3466) (own_hw hw 25 rfl) (own_hw hw 2 rfl) (by decide) rfl (by rw [hml]; rfl) [] 0 (by decide) (Nat.le_of_eq rfl) (by decide) (by decide) (lenOf own_pd6 rfl) rfl rfl 133 rfl (hb hby at_130) fun v3546 T3546 Lc3546 X3546 hQ3546 => ?_
        obtain ⟨rfl, Nq3546, Kq3546, f3547⟩ := hQ3546
        have N3548 := Fr.app N3506 Nq3546
        have f3549 := f3507.keep Kq3546
        have f3556 := f3481.keep Kq3546 (ninS (Ne.symm ne3491) nin0)
        have f3557 := f3482.keep Kq3546 (ninS (Ne.symm ne3492) nin0)
        have f3558 := f3483.keep Kq3546 (ninS (Ne.symm ne3493) nin0)
        have f3559 := f3484.keep Kq3546 (ninS (Ne.symm ne3494) nin0)
        have f3560 := f3485.keep Kq3546 (ninS (Ne.symm ne3501) nin0)
        have z3561 := Nat.le_trans z3514 Kq3546.1
        show own_Go _ _ _ _ _ (State.setTop _ (mkF _ 133 _ []))
        refine own_iconst X3546 hx 134 rfl (hb hby at_133) (0 : Int32) rfl ?_
        refine own_istore X3546 hx 136 rfl (hb hby at_134) #[.val (.int i0), .val (.int i1), .val (.int i2), .val (.int i3), .val (.int i4), .val (.int i5), .val (.int (0 : Int32)), .val (.ref b3465), .val (.int (0 : Int32)), .unset] rfl ?_
        refine own_aload X3546 hx 138 rfl (hb hby at_136) rfl rfl ?_
        refine own_virtual X3546 hx hZ (y := (⟨"com/example/prizepath/prizepath/Insertions", "isEmpty", "()Z"⟩ : MethodName)) (z := (⟨"com/example/prizepath/prizepath/Insertions", "isEmpty", "()Z"⟩ : MethodName)) hown (own_hw hw 28 rfl) (own_hw hw 29 rfl) (own_hw hw 31 rfl) (own_hw hw 30 rfl) rfl (a := b3465) f3549 (by decide) (rm_empty0 l Z a0 hw [] b3465 T3546.heap n0 z3561 f3547) (own_hw hw 32 rfl) (own_hw hw 2 rfl) (by decide) rfl (by rw [hml]; rfl) [] 0 (by decide) (Nat.le_of_eq rfl) (by decide) (by decide) (lenOf own_pd9 rfl) rfl rfl 141 rfl (hb hby at_138) fun v3562 T3562 Lc3562 X3562 hQ3562 => ?_
        obtain ⟨rfl, Nq3562, e3562⟩ := hQ3562
        have N3563 := Fr.app N3548 Nq3562
        show own_Go _ _ _ _ _ (State.setTop _ (mkF _ 141 _ [(.int (1 : Int32))]))
        refine own_istore X3562 hx 143 rfl (hb hby at_141) #[.val (.int i0), .val (.int i1), .val (.int i2), .val (.int i3), .val (.int i4), .val (.int i5), .val (.int (0 : Int32)), .val (.ref b3465), .val (.int (0 : Int32)), .val (.int (1 : Int32))] rfl ?_
        refine own_iload X3562 hx 145 rfl (hb hby at_143) rfl ?_
        refine own_iload X3562 hx 147 rfl (hb hby at_145) rfl ?_
        refine own_ifNo X3562 hx 150 rfl (hb hby at_147) (by decide) ?_
        refine own_iconst X3562 hx 151 rfl (hb hby at_150) (1 : Int32) rfl ?_
        refine own_goto X3562 hx 155 (hb hby at_151) (by decide) rfl ?_
        refine own_icmpNo X3562 hx 158 rfl (hb hby at_155) (by decide) ?_
        refine own_iload X3562 hx 160 rfl (hb hby at_158) rfl ?_
        refine own_aload X3562 hx 162 rfl (hb hby at_160) rfl rfl ?_
        refine own_virtual X3562 hx hZ (y := (⟨"com/example/prizepath/prizepath/Insertions", "size", "()I"⟩ : MethodName)) (z := (⟨"com/example/prizepath/prizepath/Insertions", "size", "()I"⟩ : MethodName)) hown (own_hw hw 33 rfl) (own_hw hw 34 rfl) (own_hw hw 36 rfl) (own_hw hw 35 rfl) rfl (a := b3465) f3549 (by decide) (rm_size l Z a0 hw [] b3465 (0 : Int32) T3546.heap n0 z3561 f3547) (own_hw hw 37 rfl) (own_hw hw 2 rfl) (by decide) e3562 (by rw [hml]; rfl) [] 1 (by decide) (Nat.le_of_eq rfl) (by decide) (by decide) (lenOf own_pd10 rfl) rfl rfl 165 rfl (hb hby at_162) fun v3564 T3564 Lc3564 X3564 hQ3564 => ?_
        obtain ⟨rfl, Nq3564, e3564⟩ := hQ3564
        have N3565 := Fr.app N3563 Nq3564
        show own_Go _ _ _ _ _ (State.setTop _ (mkF _ 165 _ [(.int (0 : Int32)), (.int (1 : Int32))]))
        refine own_ifNo X3564 hx 168 rfl (hb hby at_165) (by decide) ?_
        refine own_iconst X3564 hx 169 rfl (hb hby at_168) (1 : Int32) rfl ?_
        refine own_goto X3564 hx 173 (hb hby at_169) (by decide) rfl ?_
        refine own_icmpNo X3564 hx 176 rfl (hb hby at_173) (by decide) ?_
        refine own_iconst X3564 hx 177 rfl (hb hby at_176) (1 : Int32) rfl ?_
        refine own_goto X3564 hx 181 (hb hby at_177) (by decide) rfl ?_
        refine own_ret X3564 (some (.int (1 : Int32))) (fun h => by rw [Bd.returns] at h; cases h) Bd.notSynchronized (by decide) (by decide) ?_ (fun fs hr => retN X3564 hx (t := .boolean) Bd.returns (by simp) (hb hby at_181) hr)
        show Q_rm0 Z i0 i1 i2 i3 i4 i5 h0 n0 _ T3564.heap _
        rw [e3564]
        exact ⟨rfl, N3565⟩
  ·
    show own_Go _ _ _ _ _ (State.setTop _ (mkF _ 3 #[.val (.int i0), .val (.int i1), .val (.int i2), .val (.int i3), .val (.int i4), .val (.int i5), .unset, .unset, .unset, .unset] [(.int (1 : Int32))]))
    refine own_istore X0 hx 5 rfl (hb hby at_3) #[.val (.int i0), .val (.int i1), .val (.int i2), .val (.int i3), .val (.int i4), .val (.int i5), .val (.int (1 : Int32)), .unset, .unset, .unset] rfl ?_
    refine own_new X0 hx hZ hown (own_hw hw 0 rfl) (own_hw hw 1 rfl) (own_hw hw 2 rfl) e0 8 rfl (hb hby at_5) (by decide) (by decide) fun T3566 h3566 b3566 g3566 X3566 e3566 E3566 A3566 D3566 => ?_
    have ge3567 : n0 ≤ b3566 := Nat.le_trans Z0 (Nat.le_of_eq g3566.symm)
    have z3568 := Nat.le_trans Z0 E3566.1
    have f3569 : Fld Z h3566 b3566 "com/example/prizepath/prizepath/Insertions" "customers" "[I" .null := D3566 (Or.inl (own_hw hw 11 rfl)) (ty := (.array .int)) (by decide)
    have f3570 : Fld Z h3566 b3566 "com/example/prizepath/prizepath/Insertions" "routes" "[I" .null := D3566 (Or.inl (own_hw hw 13 rfl)) (ty := (.array .int)) (by decide)
    have f3571 : Fld Z h3566 b3566 "com/example/prizepath/prizepath/Insertions" "places" "[I" .null := D3566 (Or.inl (own_hw hw 15 rfl)) (ty := (.array .int)) (by decide)
    have f3572 : Fld Z h3566 b3566 "com/example/prizepath/prizepath/Insertions" "ranks" "[D" .null := D3566 (Or.inl (own_hw hw 18 rfl)) (ty := (.array .double)) (by decide)
    have f3573 : Fld Z h3566 b3566 "com/example/prizepath/prizepath/Insertions" "kept" "[I" .null := D3566 (Or.inl (own_hw hw 20 rfl)) (ty := (.array .int)) (by decide)
    have f3574 : Fld Z h3566 b3566 "com/example/prizepath/prizepath/Insertions" "size" "I" (.int (0 : Int32)) := D3566 (Or.inl (own_hw hw 27 rfl)) (ty := .int) (by decide)
    refine own_dup X3566 hx 9 rfl (hb hby at_8) rfl ?_
    refine own_special X3566 hx hZ (y := (⟨"com/example/prizepath/prizepath/Insertions", "<init>", "()V"⟩ : MethodName)) hown rfl (own_hw hw 3 rfl) (own_hw hw 4 rfl) (a := b3566) (by decide) rfl (rm_init l Z a0 hw [] b3566 h3566 n0 z3568 A3566 f3569 f3570 f3571 f3572 f3573 f3574 ge3567) (own_hw hw 5 rfl) (own_hw hw 2 rfl) (by decide) e3566 (by rw [hml]; rfl) [] 1 (by decide) (Nat.le_of_eq rfl) (by decide) (by decide) (lenOf own_pd6 rfl) rfl rfl 12 rfl (hb hby at_9) fun v3575 T3575 Lc3575 X3575 hQ3575 => ?_
    obtain ⟨a1_3575, a2_3575, a3_3575, a4_3575, a5_3575, k1_3575, k2_3575, k3_3575, k4_3575, k5_3575, rfl, Nq3575, Kq3575, f3576, f3577, f3578, f3579, f3580, f3581, f3582, f3583, f3584, f3585, f3586, ge3587, ge3588, ge3589, ge3590, ge3591, ne3592, ne3593, ne3594, ne3595, ne3596, ne3597, ne3598, ne3599, ne3600, ne3601, ne3602, ne3603, ne3604, ne3605, ne3606⟩ := hQ3575
    have N3607 := Fr.app N0 Nq3575
    have f3608 := A3566.keep Kq3575
    have z3615 := Nat.le_trans z3568 Kq3575.1
    show own_Go _ _ _ _ _ (State.setTop _ (mkF _ 12 _ [(.ref b3566)]))
    refine own_astore X3575 hx 14 rfl (hb hby at_12) rfl #[.val (.int i0), .val (.int i1), .val (.int i2), .val (.int i3), .val (.int i4), .val (.int i5), .val (.int (1 : Int32)), .val (.ref b3566), .unset, .unset] rfl ?_
    refine own_iload X3575 hx 16 rfl (hb hby at_14) rfl ?_
    refine own_iconst X3575 hx 17 rfl (hb hby at_16) (1 : Int32) rfl ?_
    refine own_icmpNo X3575 hx 20 rfl (hb hby at_17) (by decide) ?_
    refine own_aload X3575 hx 22 rfl (hb hby at_20) rfl rfl ?_
    refine own_iloadN X3575 hx 23 rfl (hb hby at_22) rfl ?_
    refine own_iloadN X3575 hx 24 rfl (hb hby at_23) rfl ?_
    refine own_iloadN X3575 hx 25 rfl (hb hby at_24) rfl ?_
    refine own_iload X3575 hx 27 rfl (hb hby at_25) rfl ?_
    refine own_bipush X3575 hx 29 rfl (hb hby at_27) (7 : Int32) rfl ?_
    refine own_iand X3575 hx 30 rfl (hb hby at_29) _ rfl ?_
    refine own_i2d X3575 hx 31 rfl (hb hby at_30) _ rfl ?_
    refine own_virtual X3575 hx hZ (y := (⟨"com/example/prizepath/prizepath/Insertions", "add", "(IIID)V"⟩ : MethodName)) (z := (⟨"com/example/prizepath/prizepath/Insertions", "add", "(IIID)V"⟩ : MethodName)) hown (own_hw hw 38 rfl) (own_hw hw 39 rfl) (own_hw hw 41 rfl) (own_hw hw 40 rfl) rfl (a := b3566) f3608 (by decide) (rm_add0 l Z a0 hw [] b3566 i1 i2 i3 (FP.i2d (i4 &&& (7 : Int32))) a1_3575 a2_3575 a3_3575 a4_3575 a5_3575 k1_3575 k2_3575 k3_3575 k4_3575 (0 : Int32) (0 : Int32) (0 : Int32) (0 : Int32) (0 : Int32) (0 : Int32) (0 : Int32) (0 : Int32) (0 : Int32) (0 : UInt64) (0 : UInt64) (0 : UInt64) T3575.heap n0 z3615 f3608 f3576 f3577 f3578 f3579 f3580 f3582 f3583 f3584 f3585 f3581 ge3567 ge3587 ge3588 ge3589 ge3590 ne3592 ne3593 ne3594 ne3595 ne3596 ne3597 ne3598 ne3599 ne3600 ne3601) (own_hw hw 42 rfl) (own_hw hw 2 rfl) (by decide) rfl (by rw [hml]; rfl) [(.int i1), (.int i2), (.int i3), (.double (FP.i2d (i4 &&& (7 : Int32))))] 0 (by decide) (Nat.le_of_eq rfl) (by decide) (by decide) (lenOf own_pd11 rfl) rfl rfl 34 rfl (hb hby at_31) fun v3616 T3616 Lc3616 X3616 hQ3616 => ?_
    obtain ⟨rfl, Nq3616, Kq3616, f3617, f3618, f3619, f3620, f3621, f3622, f3623, f3624, f3625, f3626⟩ := hQ3616
    have N3627 := Fr.app N3607 Nq3616
    have f3628 := f3608.keep Kq3616
    have f3639 := f3586.keep Kq3616 (ninS (Ne.symm ne3602) (ninS (Ne.symm ne3603) (ninS (Ne.symm ne3604) (ninS (Ne.symm ne3605) (ninS (Ne.symm ne3606) nin0)))))
    have z3640 := Nat.le_trans z3615 Kq3616.1
    show own_Go _ _ _ _ _ (State.setTop _ (mkF _ 34 _ []))
    refine own_iload X3616 hx 36 rfl (hb hby at_34) rfl ?_
    refine own_iconst X3616 hx 37 rfl (hb hby at_36) (2 : Int32) rfl ?_
    refine own_icmpYes X3616 hx 56 (hb hby at_37) (by decide) (by decide) rfl ?_
    refine own_iload X3616 hx 58 rfl (hb hby at_56) rfl ?_
    refine own_iconst X3616 hx 59 rfl (hb hby at_58) (3 : Int32) rfl ?_
    refine own_icmpYes X3616 hx 79 (hb hby at_59) (by decide) (by decide) rfl ?_
    refine own_iload X3616 hx 81 rfl (hb hby at_79) rfl ?_
    refine own_istore X3616 hx 83 rfl (hb hby at_81) #[.val (.int i0), .val (.int i1), .val (.int i2), .val (.int i3), .val (.int i4), .val (.int i5), .val (.int (1 : Int32)), .val (.ref b3566), .val (.int (1 : Int32)), .unset] rfl ?_
    refine own_iload X3616 hx 85 rfl (hb hby at_83) rfl ?_
    refine own_iconst X3616 hx 86 rfl (hb hby at_85) (1 : Int32) rfl ?_
    refine own_iand X3616 hx 87 rfl (hb hby at_86) _ rfl ?_
    by_cases hc3641 : (i5 &&& (1 : Int32)) = (0 : Int32)
    ·
      refine own_ifYes X3616 hx 121 (hb hby at_87) ((if0 _ _).trans (teq hc3641).1) (by decide) rfl ?_
      refine own_iload X3616 hx 123 rfl (hb hby at_121) rfl ?_
      refine own_iconst X3616 hx 124 rfl (hb hby at_123) (2 : Int32) rfl ?_
      refine own_iand X3616 hx 125 rfl (hb hby at_124) _ rfl ?_
      by_cases hc3642 : (i5 &&& (2 : Int32)) = (0 : Int32)
      ·
        refine own_ifYes X3616 hx 136 (hb hby at_125) ((if0 _ _).trans (teq hc3642).1) (by decide) rfl ?_
        refine own_aload X3616 hx 138 rfl (hb hby at_136) rfl rfl ?_
        refine own_virtual X3616 hx hZ (y := (⟨"com/example/prizepath/prizepath/Insertions", "isEmpty", "()Z"⟩ : MethodName)) (z := (⟨"com/example/prizepath/prizepath/Insertions", "isEmpty", "()Z"⟩ : MethodName)) hown (own_hw hw 28 rfl) (own_hw hw 29 rfl) (own_hw hw 31 rfl) (own_hw hw 30 rfl) rfl (a := b3566) f3628 (by decide) (rm_empty1 l Z a0 hw [] b3566 T3616.heap n0 z3640 f3626) (own_hw hw 32 rfl) (own_hw hw 2 rfl) (by decide) rfl (by rw [hml]; rfl) [] 0 (by decide) (Nat.le_of_eq rfl) (by decide) (by decide) (lenOf own_pd9 rfl) rfl rfl 141 rfl (hb hby at_138) fun v3643 T3643 Lc3643 X3643 hQ3643 => ?_
        obtain ⟨rfl, Nq3643, e3643⟩ := hQ3643
        have N3644 := Fr.app N3627 Nq3643
        show own_Go _ _ _ _ _ (State.setTop _ (mkF _ 141 _ [(.int (0 : Int32))]))
        refine own_istore X3643 hx 143 rfl (hb hby at_141) #[.val (.int i0), .val (.int i1), .val (.int i2), .val (.int i3), .val (.int i4), .val (.int i5), .val (.int (1 : Int32)), .val (.ref b3566), .val (.int (1 : Int32)), .val (.int (0 : Int32))] rfl ?_
        refine own_iload X3643 hx 145 rfl (hb hby at_143) rfl ?_
        refine own_iload X3643 hx 147 rfl (hb hby at_145) rfl ?_
        refine own_ifYes X3643 hx 154 (hb hby at_147) (by decide) (by decide) rfl ?_
        refine own_iconst X3643 hx 155 rfl (hb hby at_154) (0 : Int32) rfl ?_
        refine own_icmpNo X3643 hx 158 rfl (hb hby at_155) (by decide) ?_
        refine own_iload X3643 hx 160 rfl (hb hby at_158) rfl ?_
        refine own_aload X3643 hx 162 rfl (hb hby at_160) rfl rfl ?_
        refine own_virtual X3643 hx hZ (y := (⟨"com/example/prizepath/prizepath/Insertions", "size", "()I"⟩ : MethodName)) (z := (⟨"com/example/prizepath/prizepath/Insertions", "size", "()I"⟩ : MethodName)) hown (own_hw hw 33 rfl) (own_hw hw 34 rfl) (own_hw hw 36 rfl) (own_hw hw 35 rfl) rfl (a := b3566) f3628 (by decide) (rm_size l Z a0 hw [] b3566 (1 : Int32) T3616.heap n0 z3640 f3626) (own_hw hw 37 rfl) (own_hw hw 2 rfl) (by decide) e3643 (by rw [hml]; rfl) [] 1 (by decide) (Nat.le_of_eq rfl) (by decide) (by decide) (lenOf own_pd10 rfl) rfl rfl 165 rfl (hb hby at_162) fun v3645 T3645 Lc3645 X3645 hQ3645 => ?_
        obtain ⟨rfl, Nq3645, e3645⟩ := hQ3645
        have N3646 := Fr.app N3644 Nq3645
        show own_Go _ _ _ _ _ (State.setTop _ (mkF _ 165 _ [(.int (1 : Int32)), (.int (0 : Int32))]))
        refine own_ifYes X3645 hx 172 (hb hby at_165) (by decide) (by decide) rfl ?_
        refine own_iconst X3645 hx 173 rfl (hb hby at_172) (0 : Int32) rfl ?_
        refine own_icmpNo X3645 hx 176 rfl (hb hby at_173) (by decide) ?_
        refine own_iconst X3645 hx 177 rfl (hb hby at_176) (1 : Int32) rfl ?_
        refine own_goto X3645 hx 181 (hb hby at_177) (by decide) rfl ?_
        refine own_ret X3645 (some (.int (1 : Int32))) (fun h => by rw [Bd.returns] at h; cases h) Bd.notSynchronized (by decide) (by decide) ?_ (fun fs hr => retN X3645 hx (t := .boolean) Bd.returns (by simp) (hb hby at_181) hr)
        show Q_rm0 Z i0 i1 i2 i3 i4 i5 h0 n0 _ T3645.heap _
        rw [e3645]
        exact ⟨rfl, N3646⟩
      ·
        refine own_ifNo X3616 hx 128 rfl (hb hby at_125) ((if0 _ _).trans (feq hc3642).1) ?_
        refine own_aload X3616 hx 130 rfl (hb hby at_128) rfl rfl ?_
        refine own_virtual X3616 hx hZ (y := (⟨"com/example/prizepath/prizepath/Insertions", "clear", "()V"⟩ : MethodName)) (z := (⟨"com/example/prizepath/prizepath/Insertions", "clear", "()V"⟩ : MethodName)) hown (own_hw hw 21 rfl) (own_hw hw 22 rfl) (own_hw hw 24 rfl) (own_hw hw 23 rfl) rfl (a := b3566) f3628 (by decide) (rm_clear l Z a0 hw [] b3566 (1 : Int32) T3616.heap n0 z3640 f3628 f3626 ge3567) (own_hw hw 25 rfl) (own_hw hw 2 rfl) (by decide) rfl (by rw [hml]; rfl) [] 0 (by decide) (Nat.le_of_eq rfl) (by decide) (by decide) (lenOf own_pd6 rfl) rfl rfl 133 rfl (hb hby at_130) fun v3647 T3647 Lc3647 X3647 hQ3647 => ?_
        obtain ⟨rfl, Nq3647, Kq3647, f3648⟩ := hQ3647
        have N3649 := Fr.app N3627 Nq3647
        have f3650 := f3628.keep Kq3647
        have f3651 := f3639.keep Kq3647 (ninS (Ne.symm ne3602) nin0)
        have f3652 := f3617.keep Kq3647 (ninS (Ne.symm ne3592) nin0)
        have f3653 := f3618.keep Kq3647 (ninS (Ne.symm ne3593) nin0)
        have f3654 := f3619.keep Kq3647 (ninS (Ne.symm ne3594) nin0)
        have f3655 := f3620.keep Kq3647 (ninS (Ne.symm ne3595) nin0)
        have z3662 := Nat.le_trans z3640 Kq3647.1
        show own_Go _ _ _ _ _ (State.setTop _ (mkF _ 133 _ []))
        refine own_iconst X3647 hx 134 rfl (hb hby at_133) (0 : Int32) rfl ?_
        refine own_istore X3647 hx 136 rfl (hb hby at_134) #[.val (.int i0), .val (.int i1), .val (.int i2), .val (.int i3), .val (.int i4), .val (.int i5), .val (.int (1 : Int32)), .val (.ref b3566), .val (.int (0 : Int32)), .unset] rfl ?_
        refine own_aload X3647 hx 138 rfl (hb hby at_136) rfl rfl ?_
        refine own_virtual X3647 hx hZ (y := (⟨"com/example/prizepath/prizepath/Insertions", "isEmpty", "()Z"⟩ : MethodName)) (z := (⟨"com/example/prizepath/prizepath/Insertions", "isEmpty", "()Z"⟩ : MethodName)) hown (own_hw hw 28 rfl) (own_hw hw 29 rfl) (own_hw hw 31 rfl) (own_hw hw 30 rfl) rfl (a := b3566) f3650 (by decide) (rm_empty0 l Z a0 hw [] b3566 T3647.heap n0 z3662 f3648) (own_hw hw 32 rfl) (own_hw hw 2 rfl) (by decide) rfl (by rw [hml]; rfl) [] 0 (by decide) (Nat.le_of_eq rfl) (by decide) (by decide) (lenOf own_pd9 rfl) rfl rfl 141 rfl (hb hby at_138) fun v3663 T3663 Lc3663 X3663 hQ3663 => ?_
        obtain ⟨rfl, Nq3663, e3663⟩ := hQ3663
        have N3664 := Fr.app N3649 Nq3663
        show own_Go _ _ _ _ _ (State.setTop _ (mkF _ 141 _ [(.int (1 : Int32))]))
        refine own_istore X3663 hx 143 rfl (hb hby at_141) #[.val (.int i0), .val (.int i1), .val (.int i2), .val (.int i3), .val (.int i4), .val (.int i5), .val (.int (1 : Int32)), .val (.ref b3566), .val (.int (0 : Int32)), .val (.int (1 : Int32))] rfl ?_
        refine own_iload X3663 hx 145 rfl (hb hby at_143) rfl ?_
        refine own_iload X3663 hx 147 rfl (hb hby at_145) rfl ?_
        refine own_ifNo X3663 hx 150 rfl (hb hby at_147) (by decide) ?_
        refine own_iconst X3663 hx 151 rfl (hb hby at_150) (1 : Int32) rfl ?_
        refine own_goto X3663 hx 155 (hb hby at_151) (by decide) rfl ?_
        refine own_icmpNo X3663 hx 158 rfl (hb hby at_155) (by decide) ?_
        refine own_iload X3663 hx 160 rfl (hb hby at_158) rfl ?_
        refine own_aload X3663 hx 162 rfl (hb hby at_160) rfl rfl ?_
        refine own_virtual X3663 hx hZ (y := (⟨"com/example/prizepath/prizepath/Insertions", "size", "()I"⟩ : MethodName)) (z := (⟨"com/example/prizepath/prizepath/Insertions", "size", "()I"⟩ : MethodName)) hown (own_hw hw 33 rfl) (own_hw hw 34 rfl) (own_hw hw 36 rfl) (own_hw hw 35 rfl) rfl (a := b3566) f3650 (by decide) (rm_size l Z a0 hw [] b3566 (0 : Int32) T3647.heap n0 z3662 f3648) (own_hw hw 37 rfl) (own_hw hw 2 rfl) (by decide) e3663 (by rw [hml]; rfl) [] 1 (by decide) (Nat.le_of_eq rfl) (by decide) (by decide) (lenOf own_pd10 rfl) rfl rfl 165 rfl (hb hby at_162) fun v3665 T3665 Lc3665 X3665 hQ3665 => ?_
        obtain ⟨rfl, Nq3665, e3665⟩ := hQ3665
        have N3666 := Fr.app N3664 Nq3665
        show own_Go _ _ _ _ _ (State.setTop _ (mkF _ 165 _ [(.int (0 : Int32)), (.int (1 : Int32))]))
        refine own_ifNo X3665 hx 168 rfl (hb hby at_165) (by decide) ?_
        refine own_iconst X3665 hx 169 rfl (hb hby at_168) (1 : Int32) rfl ?_
        refine own_goto X3665 hx 173 (hb hby at_169) (by decide) rfl ?_
        refine own_icmpNo X3665 hx 176 rfl (hb hby at_173) (by decide) ?_
        refine own_iconst X3665 hx 177 rfl (hb hby at_176) (1 : Int32) rfl ?_
        refine own_goto X3665 hx 181 (hb hby at_177) (by decide) rfl ?_
        refine own_ret X3665 (some (.int (1 : Int32))) (fun h => by rw [Bd.returns] at h; cases h) Bd.notSynchronized (by decide) (by decide) ?_ (fun fs hr => retN X3665 hx (t := .boolean) Bd.returns (by simp) (hb hby at_181) hr)
        show Q_rm0 Z i0 i1 i2 i3 i4 i5 h0 n0 _ T3665.heap _
        rw [e3665]
        exact ⟨rfl, N3666⟩
    ·
      refine own_ifNo X3616 hx 90 rfl (hb hby at_87) ((if0 _ _).trans (feq hc3641).1) ?_
      refine own_iload X3616 hx 92 rfl (hb hby at_90) rfl ?_
      refine own_ifNo X3616 hx 95 rfl (hb hby at_92) (by decide) ?_
      refine own_iload X3616 hx 97 rfl (hb hby at_95) rfl ?_
      refine own_iconst X3616 hx 98 rfl (hb hby at_97) (2 : Int32) rfl ?_
      refine own_iushr X3616 hx 99 rfl (hb hby at_98) _ rfl ?_
      refine own_ldcI X3616 hx hZ hown (own_hw hw 43 rfl) 101 rfl (hb hby at_99) ?_
      refine own_iand X3616 hx 102 rfl (hb hby at_101) _ rfl ?_
      show own_Go _ _ _ _ _ (State.setTop _ (mkF _ 102 _ [(.int (own_pl i5))]))
      refine own_iload X3616 hx 104 rfl (hb hby at_102) rfl ?_
      refine own_irem X3616 hx 105 rfl (hb hby at_104) (by decide) _ rfl ?_
      rw [own_rem1 i5]
      show own_Go _ _ _ _ _ (State.setTop _ (mkF _ 105 #[.val (.int i0), .val (.int i1), .val (.int i2), .val (.int i3), .val (.int i4), .val (.int i5), .val (.int (1 : Int32)), .val (.ref b3566), .val (.int (1 : Int32)), .unset] [(.int (0 : Int32))]))
      refine own_istore X3616 hx 107 rfl (hb hby at_105) #[.val (.int i0), .val (.int i1), .val (.int i2), .val (.int i3), .val (.int i4), .val (.int i5), .val (.int (1 : Int32)), .val (.ref b3566), .val (.int (1 : Int32)), .val (.int (0 : Int32))] rfl ?_
      refine own_aload X3616 hx 109 rfl (hb hby at_107) rfl rfl ?_
      refine own_iload X3616 hx 111 rfl (hb hby at_109) rfl ?_
      refine own_virtual X3616 hx hZ (y := (⟨"com/example/prizepath/prizepath/Insertions", "take", "(I)Lcom/example/prizepath/prizepath/Insertions$Insertion;"⟩ : MethodName)) (z := (⟨"com/example/prizepath/prizepath/Insertions", "take", "(I)Lcom/example/prizepath/prizepath/Insertions$Insertion;"⟩ : MethodName)) hown (own_hw hw 44 rfl) (own_hw hw 45 rfl) (own_hw hw 47 rfl) (own_hw hw 46 rfl) rfl (a := b3566) f3628 (by decide) (rm_take10 l Z a0 hw [] b3566 a1_3575 a2_3575 a3_3575 a4_3575 a5_3575 k1_3575 k2_3575 k3_3575 k4_3575 k5_3575 i1 (0 : Int32) (0 : Int32) i2 (0 : Int32) (0 : Int32) i3 (0 : Int32) (0 : Int32) (FP.i2d (i4 &&& (7 : Int32))) (0 : UInt64) (0 : UInt64) T3616.heap n0 z3640 f3628 f3621 f3622 f3623 f3624 f3625 f3617 f3618 f3619 f3620 f3639 f3626 ge3567 ge3587 ge3588 ge3589 ge3590 ge3591 ne3592 ne3593 ne3594 ne3595 ne3596 ne3597 ne3598 ne3599 ne3600 ne3601 ne3602 ne3603 ne3604 ne3605 ne3606 (dcmpV_self (own_is.i2d _).nn .l) (by decide +kernel) (by decide +kernel)) (own_hw hw 48 rfl) (own_hw hw 2 rfl) (by decide) rfl (by rw [hml]; rfl) [(.int (0 : Int32))] 0 (by decide) (Nat.le_of_eq rfl) (by decide) (by decide) (lenOf own_pd12 rfl) rfl rfl 114 rfl (hb hby at_111) fun v3667 T3667 Lc3667 X3667 hQ3667 => ?_
      obtain ⟨r3667, rfl, Nq3667, Kq3667, f3668⟩ := hQ3667
      have N3669 := Fr.app N3627 Nq3667
      have f3670 := f3628.keep Kq3667
      have z3682 := Nat.le_trans z3640 Kq3667.1
      show own_Go _ _ _ _ _ (State.setTop _ (mkF _ 114 _ [(.ref r3667)]))
      refine own_pop X3667 hx 115 rfl (hb hby at_114) rfl ?_
      refine own_iload X3667 hx 117 rfl (hb hby at_115) rfl ?_
      refine own_iconst X3667 hx 118 rfl (hb hby at_117) (1 : Int32) rfl ?_
      refine own_isub X3667 hx 119 rfl (hb hby at_118) (0 : Int32) rfl ?_
      refine own_istore X3667 hx 121 rfl (hb hby at_119) #[.val (.int i0), .val (.int i1), .val (.int i2), .val (.int i3), .val (.int i4), .val (.int i5), .val (.int (1 : Int32)), .val (.ref b3566), .val (.int (0 : Int32)), .val (.int (0 : Int32))] rfl ?_
      refine own_iload X3667 hx 123 rfl (hb hby at_121) rfl ?_
      refine own_iconst X3667 hx 124 rfl (hb hby at_123) (2 : Int32) rfl ?_
      refine own_iand X3667 hx 125 rfl (hb hby at_124) _ rfl ?_
      by_cases hc3683 : (i5 &&& (2 : Int32)) = (0 : Int32)
      ·
        refine own_ifYes X3667 hx 136 (hb hby at_125) ((if0 _ _).trans (teq hc3683).1) (by decide) rfl ?_
        refine own_aload X3667 hx 138 rfl (hb hby at_136) rfl rfl ?_
        refine own_virtual X3667 hx hZ (y := (⟨"com/example/prizepath/prizepath/Insertions", "isEmpty", "()Z"⟩ : MethodName)) (z := (⟨"com/example/prizepath/prizepath/Insertions", "isEmpty", "()Z"⟩ : MethodName)) hown (own_hw hw 28 rfl) (own_hw hw 29 rfl) (own_hw hw 31 rfl) (own_hw hw 30 rfl) rfl (a := b3566) f3670 (by decide) (rm_empty0 l Z a0 hw [] b3566 T3667.heap n0 z3682 f3668) (own_hw hw 32 rfl) (own_hw hw 2 rfl) (by decide) rfl (by rw [hml]; rfl) [] 0 (by decide) (Nat.le_of_eq rfl) (by decide) (by decide) (lenOf own_pd9 rfl) rfl rfl 141 rfl (hb hby at_138) fun v3684 T3684 Lc3684 X3684 hQ3684 => ?_
        obtain ⟨rfl, Nq3684, e3684⟩ := hQ3684
        have N3685 := Fr.app N3669 Nq3684
        show own_Go _ _ _ _ _ (State.setTop _ (mkF _ 141 _ [(.int (1 : Int32))]))
        refine own_istore X3684 hx 143 rfl (hb hby at_141) #[.val (.int i0), .val (.int i1), .val (.int i2), .val (.int i3), .val (.int i4), .val (.int i5), .val (.int (1 : Int32)), .val (.ref b3566), .val (.int (0 : Int32)), .val (.int (1 : Int32))] rfl ?_
        refine own_iload X3684 hx 145 rfl (hb hby at_143) rfl ?_
        refine own_iload X3684 hx 147 rfl (hb hby at_145) rfl ?_
        refine own_ifNo X3684 hx 150 rfl (hb hby at_147) (by decide) ?_
        refine own_iconst X3684 hx 151 rfl (hb hby at_150) (1 : Int32) rfl ?_
        refine own_goto X3684 hx 155 (hb hby at_151) (by decide) rfl ?_
        refine own_icmpNo X3684 hx 158 rfl (hb hby at_155) (by decide) ?_
        refine own_iload X3684 hx 160 rfl (hb hby at_158) rfl ?_
        refine own_aload X3684 hx 162 rfl (hb hby at_160) rfl rfl ?_
        refine own_virtual X3684 hx hZ (y := (⟨"com/example/prizepath/prizepath/Insertions", "size", "()I"⟩ : MethodName)) (z := (⟨"com/example/prizepath/prizepath/Insertions", "size", "()I"⟩ : MethodName)) hown (own_hw hw 33 rfl) (own_hw hw 34 rfl) (own_hw hw 36 rfl) (own_hw hw 35 rfl) rfl (a := b3566) f3670 (by decide) (rm_size l Z a0 hw [] b3566 (0 : Int32) T3667.heap n0 z3682 f3668) (own_hw hw 37 rfl) (own_hw hw 2 rfl) (by decide) e3684 (by rw [hml]; rfl) [] 1 (by decide) (Nat.le_of_eq rfl) (by decide) (by decide) (lenOf own_pd10 rfl) rfl rfl 165 rfl (hb hby at_162) fun v3686 T3686 Lc3686 X3686 hQ3686 => ?_
        obtain ⟨rfl, Nq3686, e3686⟩ := hQ3686
        have N3687 := Fr.app N3685 Nq3686
        show own_Go _ _ _ _ _ (State.setTop _ (mkF _ 165 _ [(.int (0 : Int32)), (.int (1 : Int32))]))
        refine own_ifNo X3686 hx 168 rfl (hb hby at_165) (by decide) ?_
        refine own_iconst X3686 hx 169 rfl (hb hby at_168) (1 : Int32) rfl ?_
        refine own_goto X3686 hx 173 (hb hby at_169) (by decide) rfl ?_
        refine own_icmpNo X3686 hx 176 rfl (hb hby at_173) (by decide) ?_
        refine own_iconst X3686 hx 177 rfl (hb hby at_176) (1 : Int32) rfl ?_
        refine own_goto X3686 hx 181 (hb hby at_177) (by decide) rfl ?_
        refine own_ret X3686 (some (.int (1 : Int32))) (fun h => by rw [Bd.returns] at h; cases h) Bd.notSynchronized (by decide) (by decide) ?_ (fun fs hr => retN X3686 hx (t := .boolean) Bd.returns (by simp) (hb hby at_181) hr)
        show Q_rm0 Z i0 i1 i2 i3 i4 i5 h0 n0 _ T3686.heap _
        rw [e3686]
        exact ⟨rfl, N3687⟩
      ·
        refine own_ifNo X3667 hx 128 rfl (hb hby at_125) ((if0 _ _).trans (feq hc3683).1) ?_
        refine own_aload X3667 hx 130 rfl (hb hby at_128) rfl rfl ?_
        refine own_virtual X3667 hx hZ (y := (⟨"com/example/prizepath/prizepath/Insertions", "clear", "()V"⟩ : MethodName)) (z := (⟨"com/example/prizepath/prizepath/Insertions", "clear", "()V"⟩ : MethodName)) hown (own_hw hw 21 rfl) (own_hw hw 22 rfl) (own_hw hw 24 rfl) (own_hw hw 23 rfl) rfl (a := b3566) f3670 (by decide) (rm_clear l Z a0 hw [] b3566 (0 : Int32) T3667.heap n0 z3682 f3670 f3668 ge3567) (own_hw hw 25 rfl) (own_hw hw 2 rfl) (by decide) rfl (by rw [hml]; rfl) [] 0 (by decide) (Nat.le_of_eq rfl) (by decide) (by decide) (lenOf own_pd6 rfl) rfl rfl 133 rfl (hb hby at_130) fun v3688 T3688 Lc3688 X3688 hQ3688 => ?_
        obtain ⟨rfl, Nq3688, Kq3688, f3689⟩ := hQ3688
        have N3690 := Fr.app N3669 Nq3688
        have f3691 := f3670.keep Kq3688
        have z3693 := Nat.le_trans z3682 Kq3688.1
        show own_Go _ _ _ _ _ (State.setTop _ (mkF _ 133 _ []))
        refine own_iconst X3688 hx 134 rfl (hb hby at_133) (0 : Int32) rfl ?_
        refine own_istore X3688 hx 136 rfl (hb hby at_134) #[.val (.int i0), .val (.int i1), .val (.int i2), .val (.int i3), .val (.int i4), .val (.int i5), .val (.int (1 : Int32)), .val (.ref b3566), .val (.int (0 : Int32)), .val (.int (0 : Int32))] rfl ?_
        refine own_aload X3688 hx 138 rfl (hb hby at_136) rfl rfl ?_
        refine own_virtual X3688 hx hZ (y := (⟨"com/example/prizepath/prizepath/Insertions", "isEmpty", "()Z"⟩ : MethodName)) (z := (⟨"com/example/prizepath/prizepath/Insertions", "isEmpty", "()Z"⟩ : MethodName)) hown (own_hw hw 28 rfl) (own_hw hw 29 rfl) (own_hw hw 31 rfl) (own_hw hw 30 rfl) rfl (a := b3566) f3691 (by decide) (rm_empty0 l Z a0 hw [] b3566 T3688.heap n0 z3693 f3689) (own_hw hw 32 rfl) (own_hw hw 2 rfl) (by decide) rfl (by rw [hml]; rfl) [] 0 (by decide) (Nat.le_of_eq rfl) (by decide) (by decide) (lenOf own_pd9 rfl) rfl rfl 141 rfl (hb hby at_138) fun v3694 T3694 Lc3694 X3694 hQ3694 => ?_
        obtain ⟨rfl, Nq3694, e3694⟩ := hQ3694
        have N3695 := Fr.app N3690 Nq3694
        show own_Go _ _ _ _ _ (State.setTop _ (mkF _ 141 _ [(.int (1 : Int32))]))
        refine own_istore X3694 hx 143 rfl (hb hby at_141) #[.val (.int i0), .val (.int i1), .val (.int i2), .val (.int i3), .val (.int i4), .val (.int i5), .val (.int (1 : Int32)), .val (.ref b3566), .val (.int (0 : Int32)), .val (.int (1 : Int32))] rfl ?_
        refine own_iload X3694 hx 145 rfl (hb hby at_143) rfl ?_
        refine own_iload X3694 hx 147 rfl (hb hby at_145) rfl ?_
        refine own_ifNo X3694 hx 150 rfl (hb hby at_147) (by decide) ?_
        refine own_iconst X3694 hx 151 rfl (hb hby at_150) (1 : Int32) rfl ?_
        refine own_goto X3694 hx 155 (hb hby at_151) (by decide) rfl ?_
        refine own_icmpNo X3694 hx 158 rfl (hb hby at_155) (by decide) ?_
        refine own_iload X3694 hx 160 rfl (hb hby at_158) rfl ?_
        refine own_aload X3694 hx 162 rfl (hb hby at_160) rfl rfl ?_
        refine own_virtual X3694 hx hZ (y := (⟨"com/example/prizepath/prizepath/Insertions", "size", "()I"⟩ : MethodName)) (z := (⟨"com/example/prizepath/prizepath/Insertions", "size", "()I"⟩ : MethodName)) hown (own_hw hw 33 rfl) (own_hw hw 34 rfl) (own_hw hw 36 rfl) (own_hw hw 35 rfl) rfl (a := b3566) f3691 (by decide) (rm_size l Z a0 hw [] b3566 (0 : Int32) T3688.heap n0 z3693 f3689) (own_hw hw 37 rfl) (own_hw hw 2 rfl) (by decide) e3694 (by rw [hml]; rfl) [] 1 (by decide) (Nat.le_of_eq rfl) (by decide) (by decide) (lenOf own_pd10 rfl) rfl rfl 165 rfl (hb hby at_162) fun v3696 T3696 Lc3696 X3696 hQ3696 => ?_
        obtain ⟨rfl, Nq3696, e3696⟩ := hQ3696
        have N3697 := Fr.app N3695 Nq3696
        show own_Go _ _ _ _ _ (State.setTop _ (mkF _ 165 _ [(.int (0 : Int32)), (.int (1 : Int32))]))
        refine own_ifNo X3696 hx 168 rfl (hb hby at_165) (by decide) ?_
        refine own_iconst X3696 hx 169 rfl (hb hby at_168) (1 : Int32) rfl ?_
        refine own_goto X3696 hx 173 (hb hby at_169) (by decide) rfl ?_
        refine own_icmpNo X3696 hx 176 rfl (hb hby at_173) (by decide) ?_
        refine own_iconst X3696 hx 177 rfl (hb hby at_176) (1 : Int32) rfl ?_
        refine own_goto X3696 hx 181 (hb hby at_177) (by decide) rfl ?_
        refine own_ret X3696 (some (.int (1 : Int32))) (fun h => by rw [Bd.returns] at h; cases h) Bd.notSynchronized (by decide) (by decide) ?_ (fun fs hr => retN X3696 hx (t := .boolean) Bd.returns (by simp) (hb hby at_181) hr)
        show Q_rm0 Z i0 i1 i2 i3 i4 i5 h0 n0 _ T3696.heap _
        rw [e3696]
        exact ⟨rfl, N3697⟩
  ·
    show own_Go _ _ _ _ _ (State.setTop _ (mkF _ 3 #[.val (.int i0), .val (.int i1), .val (.int i2), .val (.int i3), .val (.int i4), .val (.int i5), .unset, .unset, .unset, .unset] [(.int (2 : Int32))]))
    refine own_istore X0 hx 5 rfl (hb hby at_3) #[.val (.int i0), .val (.int i1), .val (.int i2), .val (.int i3), .val (.int i4), .val (.int i5), .val (.int (2 : Int32)), .unset, .unset, .unset] rfl ?_
    refine own_new X0 hx hZ hown (own_hw hw 0 rfl) (own_hw hw 1 rfl) (own_hw hw 2 rfl) e0 8 rfl (hb hby at_5) (by decide) (by decide) fun T3698 h3698 b3698 g3698 X3698 e3698 E3698 A3698 D3698 => ?_
    have ge3699 : n0 ≤ b3698 := Nat.le_trans Z0 (Nat.le_of_eq g3698.symm)
    have z3700 := Nat.le_trans Z0 E3698.1
    have f3701 : Fld Z h3698 b3698 "com/example/prizepath/prizepath/Insertions" "customers" "[I" .null := D3698 (Or.inl (own_hw hw 11 rfl)) (ty := (.array .int)) (by decide)
    have f3702 : Fld Z h3698 b3698 "com/example/prizepath/prizepath/Insertions" "routes" "[I" .null := D3698 (Or.inl (own_hw hw 13 rfl)) (ty := (.array .int)) (by decide)
    have f3703 : Fld Z h3698 b3698 "com/example/prizepath/prizepath/Insertions" "places" "[I" .null := D3698 (Or.inl (own_hw hw 15 rfl)) (ty := (.array .int)) (by decide)
    have f3704 : Fld Z h3698 b3698 "com/example/prizepath/prizepath/Insertions" "ranks" "[D" .null := D3698 (Or.inl (own_hw hw 18 rfl)) (ty := (.array .double)) (by decide)
    have f3705 : Fld Z h3698 b3698 "com/example/prizepath/prizepath/Insertions" "kept" "[I" .null := D3698 (Or.inl (own_hw hw 20 rfl)) (ty := (.array .int)) (by decide)
    have f3706 : Fld Z h3698 b3698 "com/example/prizepath/prizepath/Insertions" "size" "I" (.int (0 : Int32)) := D3698 (Or.inl (own_hw hw 27 rfl)) (ty := .int) (by decide)
    refine own_dup X3698 hx 9 rfl (hb hby at_8) rfl ?_
    refine own_special X3698 hx hZ (y := (⟨"com/example/prizepath/prizepath/Insertions", "<init>", "()V"⟩ : MethodName)) hown rfl (own_hw hw 3 rfl) (own_hw hw 4 rfl) (a := b3698) (by decide) rfl (rm_init l Z a0 hw [] b3698 h3698 n0 z3700 A3698 f3701 f3702 f3703 f3704 f3705 f3706 ge3699) (own_hw hw 5 rfl) (own_hw hw 2 rfl) (by decide) e3698 (by rw [hml]; rfl) [] 1 (by decide) (Nat.le_of_eq rfl) (by decide) (by decide) (lenOf own_pd6 rfl) rfl rfl 12 rfl (hb hby at_9) fun v3707 T3707 Lc3707 X3707 hQ3707 => ?_
    obtain ⟨a1_3707, a2_3707, a3_3707, a4_3707, a5_3707, k1_3707, k2_3707, k3_3707, k4_3707, k5_3707, rfl, Nq3707, Kq3707, f3708, f3709, f3710, f3711, f3712, f3713, f3714, f3715, f3716, f3717, f3718, ge3719, ge3720, ge3721, ge3722, ge3723, ne3724, ne3725, ne3726, ne3727, ne3728, ne3729, ne3730, ne3731, ne3732, ne3733, ne3734, ne3735, ne3736, ne3737, ne3738⟩ := hQ3707
    have N3739 := Fr.app N0 Nq3707
    have f3740 := A3698.keep Kq3707
    have z3747 := Nat.le_trans z3700 Kq3707.1
    show own_Go _ _ _ _ _ (State.setTop _ (mkF _ 12 _ [(.ref b3698)]))
    refine own_astore X3707 hx 14 rfl (hb hby at_12) rfl #[.val (.int i0), .val (.int i1), .val (.int i2), .val (.int i3), .val (.int i4), .val (.int i5), .val (.int (2 : Int32)), .val (.ref b3698), .unset, .unset] rfl ?_
    refine own_iload X3707 hx 16 rfl (hb hby at_14) rfl ?_
    refine own_iconst X3707 hx 17 rfl (hb hby at_16) (1 : Int32) rfl ?_
    refine own_icmpNo X3707 hx 20 rfl (hb hby at_17) (by decide) ?_
    refine own_aload X3707 hx 22 rfl (hb hby at_20) rfl rfl ?_
    refine own_iloadN X3707 hx 23 rfl (hb hby at_22) rfl ?_
    refine own_iloadN X3707 hx 24 rfl (hb hby at_23) rfl ?_
    refine own_iloadN X3707 hx 25 rfl (hb hby at_24) rfl ?_
    refine own_iload X3707 hx 27 rfl (hb hby at_25) rfl ?_
    refine own_bipush X3707 hx 29 rfl (hb hby at_27) (7 : Int32) rfl ?_
    refine own_iand X3707 hx 30 rfl (hb hby at_29) _ rfl ?_
    refine own_i2d X3707 hx 31 rfl (hb hby at_30) _ rfl ?_
    refine own_virtual X3707 hx hZ (y := (⟨"com/example/prizepath/prizepath/Insertions", "add", "(IIID)V"⟩ : MethodName)) (z := (⟨"com/example/prizepath/prizepath/Insertions", "add", "(IIID)V"⟩ : MethodName)) hown (own_hw hw 38 rfl) (own_hw hw 39 rfl) (own_hw hw 41 rfl) (own_hw hw 40 rfl) rfl (a := b3698) f3740 (by decide) (rm_add0 l Z a0 hw [] b3698 i1 i2 i3 (FP.i2d (i4 &&& (7 : Int32))) a1_3707 a2_3707 a3_3707 a4_3707 a5_3707 k1_3707 k2_3707 k3_3707 k4_3707 (0 : Int32) (0 : Int32) (0 : Int32) (0 : Int32) (0 : Int32) (0 : Int32) (0 : Int32) (0 : Int32) (0 : Int32) (0 : UInt64) (0 : UInt64) (0 : UInt64) T3707.heap n0 z3747 f3740 f3708 f3709 f3710 f3711 f3712 f3714 f3715 f3716 f3717 f3713 ge3699 ge3719 ge3720 ge3721 ge3722 ne3724 ne3725 ne3726 ne3727 ne3728 ne3729 ne3730 ne3731 ne3732 ne3733) (own_hw hw 42 rfl) (own_hw hw 2 rfl) (by decide) rfl (by rw [hml]; rfl) [(.int i1), (.int i2), (.int i3), (.double (FP.i2d (i4 &&& (7 : Int32))))] 0 (by decide) (Nat.le_of_eq rfl) (by decide) (by decide) (lenOf own_pd11 rfl) rfl rfl 34 rfl (hb hby at_31) fun v3748 T3748 Lc3748 X3748 hQ3748 => ?_
    obtain ⟨rfl, Nq3748, Kq3748, f3749, f3750, f3751, f3752, f3753, f3754, f3755, f3756, f3757, f3758⟩ := hQ3748
    have N3759 := Fr.app N3739 Nq3748
    have f3760 := f3740.keep Kq3748
    have f3771 := f3718.keep Kq3748 (ninS (Ne.symm ne3734) (ninS (Ne.symm ne3735) (ninS (Ne.symm ne3736) (ninS (Ne.symm ne3737) (ninS (Ne.symm ne3738) nin0)))))
    have z3772 := Nat.le_trans z3747 Kq3748.1
    show own_Go _ _ _ _ _ (State.setTop _ (mkF _ 34 _ []))
    refine own_iload X3748 hx 36 rfl (hb hby at_34) rfl ?_
    refine own_iconst X3748 hx 37 rfl (hb hby at_36) (2 : Int32) rfl ?_
    refine own_icmpNo X3748 hx 40 rfl (hb hby at_37) (by decide) ?_
    refine own_aload X3748 hx 42 rfl (hb hby at_40) rfl rfl ?_
    refine own_iloadN X3748 hx 43 rfl (hb hby at_42) rfl ?_
    refine own_iloadN X3748 hx 44 rfl (hb hby at_43) rfl ?_
    refine own_iloadN X3748 hx 45 rfl (hb hby at_44) rfl ?_
    refine own_iload X3748 hx 47 rfl (hb hby at_45) rfl ?_
    refine own_iconst X3748 hx 48 rfl (hb hby at_47) (3 : Int32) rfl ?_
    refine own_ishr X3748 hx 49 rfl (hb hby at_48) _ rfl ?_
    refine own_bipush X3748 hx 51 rfl (hb hby at_49) (7 : Int32) rfl ?_
    refine own_iand X3748 hx 52 rfl (hb hby at_51) _ rfl ?_
    refine own_i2d X3748 hx 53 rfl (hb hby at_52) _ rfl ?_
    refine own_virtual X3748 hx hZ (y := (⟨"com/example/prizepath/prizepath/Insertions", "add", "(IIID)V"⟩ : MethodName)) (z := (⟨"com/example/prizepath/prizepath/Insertions", "add", "(IIID)V"⟩ : MethodName)) hown (own_hw hw 38 rfl) (own_hw hw 39 rfl) (own_hw hw 41 rfl) (own_hw hw 40 rfl) rfl (a := b3698) f3760 (by decide) (rm_add1 l Z a0 hw [] b3698 i2 i3 i1 (FP.i2d ((i4 >>> ((3 : Int32) &&& 31)) &&& (7 : Int32))) a1_3707 a2_3707 a3_3707 a4_3707 a5_3707 k1_3707 k2_3707 k3_3707 k4_3707 i1 (0 : Int32) (0 : Int32) i2 (0 : Int32) (0 : Int32) i3 (0 : Int32) (0 : Int32) (FP.i2d (i4 &&& (7 : Int32))) (0 : UInt64) (0 : UInt64) T3748.heap n0 z3772 f3760 f3753 f3754 f3755 f3756 f3757 f3749 f3750 f3751 f3752 f3758 ge3699 ge3719 ge3720 ge3721 ge3722 ne3724 ne3725 ne3726 ne3727 ne3728 ne3729 ne3730 ne3731 ne3732 ne3733) (own_hw hw 42 rfl) (own_hw hw 2 rfl) (by decide) rfl (by rw [hml]; rfl) [(.int i2), (.int i3), (.int i1), (.double (FP.i2d ((i4 >>> ((3 : Int32) &&& 31)) &&& (7 : Int32))))] 0 (by decide) (Nat.le_of_eq rfl) (by decide) (by decide) (lenOf own_pd11 rfl) rfl rfl 56 rfl (hb hby at_53) fun v3773 T3773 Lc3773 X3773 hQ3773 => ?_
    obtain ⟨rfl, Nq3773, Kq3773, f3774, f3775, f3776, f3777, f3778, f3779, f3780, f3781, f3782, f3783⟩ := hQ3773
    have N3784 := Fr.app N3759 Nq3773
    have f3785 := f3760.keep Kq3773
    have f3786 := f3771.keep Kq3773 (ninS (Ne.symm ne3734) (ninS (Ne.symm ne3735) (ninS (Ne.symm ne3736) (ninS (Ne.symm ne3737) (ninS (Ne.symm ne3738) nin0)))))
    have z3797 := Nat.le_trans z3772 Kq3773.1
    show own_Go _ _ _ _ _ (State.setTop _ (mkF _ 56 _ []))
    refine own_iload X3773 hx 58 rfl (hb hby at_56) rfl ?_
    refine own_iconst X3773 hx 59 rfl (hb hby at_58) (3 : Int32) rfl ?_
    refine own_icmpYes X3773 hx 79 (hb hby at_59) (by decide) (by decide) rfl ?_
    refine own_iload X3773 hx 81 rfl (hb hby at_79) rfl ?_
    refine own_istore X3773 hx 83 rfl (hb hby at_81) #[.val (.int i0), .val (.int i1), .val (.int i2), .val (.int i3), .val (.int i4), .val (.int i5), .val (.int (2 : Int32)), .val (.ref b3698), .val (.int (2 : Int32)), .unset] rfl ?_
    refine own_iload X3773 hx 85 rfl (hb hby at_83) rfl ?_
    refine own_iconst X3773 hx 86 rfl (hb hby at_85) (1 : Int32) rfl ?_
    refine own_iand X3773 hx 87 rfl (hb hby at_86) _ rfl ?_
    by_cases hc3798 : (i5 &&& (1 : Int32)) = (0 : Int32)
    ·
      refine own_ifYes X3773 hx 121 (hb hby at_87) ((if0 _ _).trans (teq hc3798).1) (by decide) rfl ?_
      refine own_iload X3773 hx 123 rfl (hb hby at_121) rfl ?_
      refine own_iconst X3773 hx 124 rfl (hb hby at_123) (2 : Int32) rfl ?_
      refine own_iand X3773 hx 125 rfl (hb hby at_124) _ rfl ?_
      by_cases hc3799 : (i5 &&& (2 : Int32)) = (0 : Int32)
      ·
        refine own_ifYes X3773 hx 136 (hb hby at_125) ((if0 _ _).trans (teq hc3799).1) (by decide) rfl ?_
        refine own_aload X3773 hx 138 rfl (hb hby at_136) rfl rfl ?_
        refine own_virtual X3773 hx hZ (y := (⟨"com/example/prizepath/prizepath/Insertions", "isEmpty", "()Z"⟩ : MethodName)) (z := (⟨"com/example/prizepath/prizepath/Insertions", "isEmpty", "()Z"⟩ : MethodName)) hown (own_hw hw 28 rfl) (own_hw hw 29 rfl) (own_hw hw 31 rfl) (own_hw hw 30 rfl) rfl (a := b3698) f3785 (by decide) (rm_empty2 l Z a0 hw [] b3698 T3773.heap n0 z3797 f3783) (own_hw hw 32 rfl) (own_hw hw 2 rfl) (by decide) rfl (by rw [hml]; rfl) [] 0 (by decide) (Nat.le_of_eq rfl) (by decide) (by decide) (lenOf own_pd9 rfl) rfl rfl 141 rfl (hb hby at_138) fun v3800 T3800 Lc3800 X3800 hQ3800 => ?_
        obtain ⟨rfl, Nq3800, e3800⟩ := hQ3800
        have N3801 := Fr.app N3784 Nq3800
        show own_Go _ _ _ _ _ (State.setTop _ (mkF _ 141 _ [(.int (0 : Int32))]))
        refine own_istore X3800 hx 143 rfl (hb hby at_141) #[.val (.int i0), .val (.int i1), .val (.int i2), .val (.int i3), .val (.int i4), .val (.int i5), .val (.int (2 : Int32)), .val (.ref b3698), .val (.int (2 : Int32)), .val (.int (0 : Int32))] rfl ?_
        refine own_iload X3800 hx 145 rfl (hb hby at_143) rfl ?_
        refine own_iload X3800 hx 147 rfl (hb hby at_145) rfl ?_
        refine own_ifYes X3800 hx 154 (hb hby at_147) (by decide) (by decide) rfl ?_
        refine own_iconst X3800 hx 155 rfl (hb hby at_154) (0 : Int32) rfl ?_
        refine own_icmpNo X3800 hx 158 rfl (hb hby at_155) (by decide) ?_
        refine own_iload X3800 hx 160 rfl (hb hby at_158) rfl ?_
        refine own_aload X3800 hx 162 rfl (hb hby at_160) rfl rfl ?_
        refine own_virtual X3800 hx hZ (y := (⟨"com/example/prizepath/prizepath/Insertions", "size", "()I"⟩ : MethodName)) (z := (⟨"com/example/prizepath/prizepath/Insertions", "size", "()I"⟩ : MethodName)) hown (own_hw hw 33 rfl) (own_hw hw 34 rfl) (own_hw hw 36 rfl) (own_hw hw 35 rfl) rfl (a := b3698) f3785 (by decide) (rm_size l Z a0 hw [] b3698 (2 : Int32) T3773.heap n0 z3797 f3783) (own_hw hw 37 rfl) (own_hw hw 2 rfl) (by decide) e3800 (by rw [hml]; rfl) [] 1 (by decide) (Nat.le_of_eq rfl) (by decide) (by decide) (lenOf own_pd10 rfl) rfl rfl 165 rfl (hb hby at_162) fun v3802 T3802 Lc3802 X3802 hQ3802 => ?_
        obtain ⟨rfl, Nq3802, e3802⟩ := hQ3802
        have N3803 := Fr.app N3801 Nq3802
        show own_Go _ _ _ _ _ (State.setTop _ (mkF _ 165 _ [(.int (2 : Int32)), (.int (0 : Int32))]))
        refine own_ifYes X3802 hx 172 (hb hby at_165) (by decide) (by decide) rfl ?_
        refine own_iconst X3802 hx 173 rfl (hb hby at_172) (0 : Int32) rfl ?_
        refine own_icmpNo X3802 hx 176 rfl (hb hby at_173) (by decide) ?_
        refine own_iconst X3802 hx 177 rfl (hb hby at_176) (1 : Int32) rfl ?_
        refine own_goto X3802 hx 181 (hb hby at_177) (by decide) rfl ?_
        refine own_ret X3802 (some (.int (1 : Int32))) (fun h => by rw [Bd.returns] at h; cases h) Bd.notSynchronized (by decide) (by decide) ?_ (fun fs hr => retN X3802 hx (t := .boolean) Bd.returns (by simp) (hb hby at_181) hr)
        show Q_rm0 Z i0 i1 i2 i3 i4 i5 h0 n0 _ T3802.heap _
        rw [e3802]
        exact ⟨rfl, N3803⟩
      ·
        refine own_ifNo X3773 hx 128 rfl (hb hby at_125) ((if0 _ _).trans (feq hc3799).1) ?_
        refine own_aload X3773 hx 130 rfl (hb hby at_128) rfl rfl ?_
        refine own_virtual X3773 hx hZ (y := (⟨"com/example/prizepath/prizepath/Insertions", "clear", "()V"⟩ : MethodName)) (z := (⟨"com/example/prizepath/prizepath/Insertions", "clear", "()V"⟩ : MethodName)) hown (own_hw hw 21 rfl) (own_hw hw 22 rfl) (own_hw hw 24 rfl) (own_hw hw 23 rfl) rfl (a := b3698) f3785 (by decide) (rm_clear l Z a0 hw [] b3698 (2 : Int32) T3773.heap n0 z3797 f3785 f3783 ge3699) (own_hw hw 25 rfl) (own_hw hw 2 rfl) (by decide) rfl (by rw [hml]; rfl) [] 0 (by decide) (Nat.le_of_eq rfl) (by decide) (by decide) (lenOf own_pd6 rfl) rfl rfl 133 rfl (hb hby at_130) fun v3804 T3804 Lc3804 X3804 hQ3804 => ?_
        obtain ⟨rfl, Nq3804, Kq3804, f3805⟩ := hQ3804
        have N3806 := Fr.app N3784 Nq3804
        have f3807 := f3785.keep Kq3804
        have f3808 := f3786.keep Kq3804 (ninS (Ne.symm ne3734) nin0)
        have f3809 := f3774.keep Kq3804 (ninS (Ne.symm ne3724) nin0)
        have f3810 := f3775.keep Kq3804 (ninS (Ne.symm ne3725) nin0)
        have f3811 := f3776.keep Kq3804 (ninS (Ne.symm ne3726) nin0)
        have f3812 := f3777.keep Kq3804 (ninS (Ne.symm ne3727) nin0)
        have z3819 := Nat.le_trans z3797 Kq3804.1
        show own_Go _ _ _ _ _ (State.setTop _ (mkF _ 133 _ []))
        refine own_iconst X3804 hx 134 rfl (hb hby at_133) (0 : Int32) rfl ?_
        refine own_istore X3804 hx 136 rfl (hb hby at_134) #[.val (.int i0), .val (.int i1), .val (.int i2), .val (.int i3), .val (.int i4), .val (.int i5), .val (.int (2 : Int32)), .val (.ref b3698), .val (.int (0 : Int32)), .unset] rfl ?_
        refine own_aload X3804 hx 138 rfl (hb hby at_136) rfl rfl ?_
        refine own_virtual X3804 hx hZ (y := (⟨"com/example/prizepath/prizepath/Insertions", "isEmpty", "()Z"⟩ : MethodName)) (z := (⟨"com/example/prizepath/prizepath/Insertions", "isEmpty", "()Z"⟩ : MethodName)) hown (own_hw hw 28 rfl) (own_hw hw 29 rfl) (own_hw hw 31 rfl) (own_hw hw 30 rfl) rfl (a := b3698) f3807 (by decide) (rm_empty0 l Z a0 hw [] b3698 T3804.heap n0 z3819 f3805) (own_hw hw 32 rfl) (own_hw hw 2 rfl) (by decide) rfl (by rw [hml]; rfl) [] 0 (by decide) (Nat.le_of_eq rfl) (by decide) (by decide) (lenOf own_pd9 rfl) rfl rfl 141 rfl (hb hby at_138) fun v3820 T3820 Lc3820 X3820 hQ3820 => ?_
        obtain ⟨rfl, Nq3820, e3820⟩ := hQ3820
        have N3821 := Fr.app N3806 Nq3820
        show own_Go _ _ _ _ _ (State.setTop _ (mkF _ 141 _ [(.int (1 : Int32))]))
        refine own_istore X3820 hx 143 rfl (hb hby at_141) #[.val (.int i0), .val (.int i1), .val (.int i2), .val (.int i3), .val (.int i4), .val (.int i5), .val (.int (2 : Int32)), .val (.ref b3698), .val (.int (0 : Int32)), .val (.int (1 : Int32))] rfl ?_
        refine own_iload X3820 hx 145 rfl (hb hby at_143) rfl ?_
        refine own_iload X3820 hx 147 rfl (hb hby at_145) rfl ?_
        refine own_ifNo X3820 hx 150 rfl (hb hby at_147) (by decide) ?_
        refine own_iconst X3820 hx 151 rfl (hb hby at_150) (1 : Int32) rfl ?_
        refine own_goto X3820 hx 155 (hb hby at_151) (by decide) rfl ?_
        refine own_icmpNo X3820 hx 158 rfl (hb hby at_155) (by decide) ?_
        refine own_iload X3820 hx 160 rfl (hb hby at_158) rfl ?_
        refine own_aload X3820 hx 162 rfl (hb hby at_160) rfl rfl ?_
        refine own_virtual X3820 hx hZ (y := (⟨"com/example/prizepath/prizepath/Insertions", "size", "()I"⟩ : MethodName)) (z := (⟨"com/example/prizepath/prizepath/Insertions", "size", "()I"⟩ : MethodName)) hown (own_hw hw 33 rfl) (own_hw hw 34 rfl) (own_hw hw 36 rfl) (own_hw hw 35 rfl) rfl (a := b3698) f3807 (by decide) (rm_size l Z a0 hw [] b3698 (0 : Int32) T3804.heap n0 z3819 f3805) (own_hw hw 37 rfl) (own_hw hw 2 rfl) (by decide) e3820 (by rw [hml]; rfl) [] 1 (by decide) (Nat.le_of_eq rfl) (by decide) (by decide) (lenOf own_pd10 rfl) rfl rfl 165 rfl (hb hby at_162) fun v3822 T3822 Lc3822 X3822 hQ3822 => ?_
        obtain ⟨rfl, Nq3822, e3822⟩ := hQ3822
        have N3823 := Fr.app N3821 Nq3822
        show own_Go _ _ _ _ _ (State.setTop _ (mkF _ 165 _ [(.int (0 : Int32)), (.int (1 : Int32))]))
        refine own_ifNo X3822 hx 168 rfl (hb hby at_165) (by decide) ?_
        refine own_iconst X3822 hx 169 rfl (hb hby at_168) (1 : Int32) rfl ?_
        refine own_goto X3822 hx 173 (hb hby at_169) (by decide) rfl ?_
        refine own_icmpNo X3822 hx 176 rfl (hb hby at_173) (by decide) ?_
        refine own_iconst X3822 hx 177 rfl (hb hby at_176) (1 : Int32) rfl ?_
        refine own_goto X3822 hx 181 (hb hby at_177) (by decide) rfl ?_
        refine own_ret X3822 (some (.int (1 : Int32))) (fun h => by rw [Bd.returns] at h; cases h) Bd.notSynchronized (by decide) (by decide) ?_ (fun fs hr => retN X3822 hx (t := .boolean) Bd.returns (by simp) (hb hby at_181) hr)
        show Q_rm0 Z i0 i1 i2 i3 i4 i5 h0 n0 _ T3822.heap _
        rw [e3822]
        exact ⟨rfl, N3823⟩
    ·
      refine own_ifNo X3773 hx 90 rfl (hb hby at_87) ((if0 _ _).trans (feq hc3798).1) ?_
      refine own_iload X3773 hx 92 rfl (hb hby at_90) rfl ?_
      refine own_ifNo X3773 hx 95 rfl (hb hby at_92) (by decide) ?_
      refine own_iload X3773 hx 97 rfl (hb hby at_95) rfl ?_
      refine own_iconst X3773 hx 98 rfl (hb hby at_97) (2 : Int32) rfl ?_
      refine own_iushr X3773 hx 99 rfl (hb hby at_98) _ rfl ?_
      refine own_ldcI X3773 hx hZ hown (own_hw hw 43 rfl) 101 rfl (hb hby at_99) ?_
      refine own_iand X3773 hx 102 rfl (hb hby at_101) _ rfl ?_
      show own_Go _ _ _ _ _ (State.setTop _ (mkF _ 102 _ [(.int (own_pl i5))]))
      refine own_iload X3773 hx 104 rfl (hb hby at_102) rfl ?_
      refine own_irem X3773 hx 105 rfl (hb hby at_104) (by decide) _ rfl ?_
      rcases own_rem2 i5 with hr | hr <;> rw [hr]
      ·
        show own_Go _ _ _ _ _ (State.setTop _ (mkF _ 105 #[.val (.int i0), .val (.int i1), .val (.int i2), .val (.int i3), .val (.int i4), .val (.int i5), .val (.int (2 : Int32)), .val (.ref b3698), .val (.int (2 : Int32)), .unset] [(.int (0 : Int32))]))
        refine own_istore X3773 hx 107 rfl (hb hby at_105) #[.val (.int i0), .val (.int i1), .val (.int i2), .val (.int i3), .val (.int i4), .val (.int i5), .val (.int (2 : Int32)), .val (.ref b3698), .val (.int (2 : Int32)), .val (.int (0 : Int32))] rfl ?_
        refine own_aload X3773 hx 109 rfl (hb hby at_107) rfl rfl ?_
        refine own_iload X3773 hx 111 rfl (hb hby at_109) rfl ?_
        refine own_virtual X3773 hx hZ (y := (⟨"com/example/prizepath/prizepath/Insertions", "take", "(I)Lcom/example/prizepath/prizepath/Insertions$Insertion;"⟩ : MethodName)) (z := (⟨"com/example/prizepath/prizepath/Insertions", "take", "(I)Lcom/example/prizepath/prizepath/Insertions$Insertion;"⟩ : MethodName)) hown (own_hw hw 44 rfl) (own_hw hw 45 rfl) (own_hw hw 47 rfl) (own_hw hw 46 rfl) rfl (a := b3698) f3785 (by decide) (rm_take20 l Z a0 hw [] b3698 a1_3707 a2_3707 a3_3707 a4_3707 a5_3707 k1_3707 k2_3707 k3_3707 k4_3707 k5_3707 i1 i2 (0 : Int32) i2 i3 (0 : Int32) i3 i1 (0 : Int32) (FP.i2d (i4 &&& (7 : Int32))) (FP.i2d ((i4 >>> ((3 : Int32) &&& 31)) &&& (7 : Int32))) (0 : UInt64) T3773.heap n0 z3797 f3785 f3778 f3779 f3780 f3781 f3782 f3774 f3775 f3776 f3777 f3786 f3783 ge3699 ge3719 ge3720 ge3721 ge3722 ge3723 ne3724 ne3725 ne3726 ne3727 ne3728 ne3729 ne3730 ne3731 ne3732 ne3733 ne3734 ne3735 ne3736 ne3737 ne3738 (dcmpV_self (own_is.i2d _).nn .l) (dcmpV_self (own_is.i2d _).nn .l) (by decide +kernel)) (own_hw hw 48 rfl) (own_hw hw 2 rfl) (by decide) rfl (by rw [hml]; rfl) [(.int (0 : Int32))] 0 (by decide) (Nat.le_of_eq rfl) (by decide) (by decide) (lenOf own_pd12 rfl) rfl rfl 114 rfl (hb hby at_111) fun v3824 T3824 Lc3824 X3824 hQ3824 => ?_
        obtain ⟨r3824, rfl, Nq3824, Kq3824, f3825⟩ := hQ3824
        have N3826 := Fr.app N3784 Nq3824
        have f3827 := f3785.keep Kq3824
        have z3839 := Nat.le_trans z3797 Kq3824.1
        show own_Go _ _ _ _ _ (State.setTop _ (mkF _ 114 _ [(.ref r3824)]))
        refine own_pop X3824 hx 115 rfl (hb hby at_114) rfl ?_
        refine own_iload X3824 hx 117 rfl (hb hby at_115) rfl ?_
        refine own_iconst X3824 hx 118 rfl (hb hby at_117) (1 : Int32) rfl ?_
        refine own_isub X3824 hx 119 rfl (hb hby at_118) (1 : Int32) rfl ?_
        refine own_istore X3824 hx 121 rfl (hb hby at_119) #[.val (.int i0), .val (.int i1), .val (.int i2), .val (.int i3), .val (.int i4), .val (.int i5), .val (.int (2 : Int32)), .val (.ref b3698), .val (.int (1 : Int32)), .val (.int (0 : Int32))] rfl ?_
        refine own_iload X3824 hx 123 rfl (hb hby at_121) rfl ?_
        refine own_iconst X3824 hx 124 rfl (hb hby at_123) (2 : Int32) rfl ?_
        refine own_iand X3824 hx 125 rfl (hb hby at_124) _ rfl ?_
        by_cases hc3840 : (i5 &&& (2 : Int32)) = (0 : Int32)
        ·
          refine own_ifYes X3824 hx 136 (hb hby at_125) ((if0 _ _).trans (teq hc3840).1) (by decide) rfl ?_
          refine own_aload X3824 hx 138 rfl (hb hby at_136) rfl rfl ?_
          refine own_virtual X3824 hx hZ (y := (⟨"com/example/prizepath/prizepath/Insertions", "isEmpty", "()Z"⟩ : MethodName)) (z := (⟨"com/example/prizepath/prizepath/Insertions", "isEmpty", "()Z"⟩ : MethodName)) hown (own_hw hw 28 rfl) (own_hw hw 29 rfl) (own_hw hw 31 rfl) (own_hw hw 30 rfl) rfl (a := b3698) f3827 (by decide) (rm_empty1 l Z a0 hw [] b3698 T3824.heap n0 z3839 f3825) (own_hw hw 32 rfl) (own_hw hw 2 rfl) (by decide) rfl (by rw [hml]; rfl) [] 0 (by decide) (Nat.le_of_eq rfl) (by decide) (by decide) (lenOf own_pd9 rfl) rfl rfl 141 rfl (hb hby at_138) fun v3841 T3841 Lc3841 X3841 hQ3841 => ?_
          obtain ⟨rfl, Nq3841, e3841⟩ := hQ3841
          have N3842 := Fr.app N3826 Nq3841
          show own_Go _ _ _ _ _ (State.setTop _ (mkF _ 141 _ [(.int (0 : Int32))]))
          refine own_istore X3841 hx 143 rfl (hb hby at_141) #[.val (.int i0), .val (.int i1), .val (.int i2), .val (.int i3), .val (.int i4), .val (.int i5), .val (.int (2 : Int32)), .val (.ref b3698), .val (.int (1 : Int32)), .val (.int (0 : Int32))] rfl ?_
          refine own_iload X3841 hx 145 rfl (hb hby at_143) rfl ?_
          refine own_iload X3841 hx 147 rfl (hb hby at_145) rfl ?_
          refine own_ifYes X3841 hx 154 (hb hby at_147) (by decide) (by decide) rfl ?_
          refine own_iconst X3841 hx 155 rfl (hb hby at_154) (0 : Int32) rfl ?_
          refine own_icmpNo X3841 hx 158 rfl (hb hby at_155) (by decide) ?_
          refine own_iload X3841 hx 160 rfl (hb hby at_158) rfl ?_
          refine own_aload X3841 hx 162 rfl (hb hby at_160) rfl rfl ?_
          refine own_virtual X3841 hx hZ (y := (⟨"com/example/prizepath/prizepath/Insertions", "size", "()I"⟩ : MethodName)) (z := (⟨"com/example/prizepath/prizepath/Insertions", "size", "()I"⟩ : MethodName)) hown (own_hw hw 33 rfl) (own_hw hw 34 rfl) (own_hw hw 36 rfl) (own_hw hw 35 rfl) rfl (a := b3698) f3827 (by decide) (rm_size l Z a0 hw [] b3698 (1 : Int32) T3824.heap n0 z3839 f3825) (own_hw hw 37 rfl) (own_hw hw 2 rfl) (by decide) e3841 (by rw [hml]; rfl) [] 1 (by decide) (Nat.le_of_eq rfl) (by decide) (by decide) (lenOf own_pd10 rfl) rfl rfl 165 rfl (hb hby at_162) fun v3843 T3843 Lc3843 X3843 hQ3843 => ?_
          obtain ⟨rfl, Nq3843, e3843⟩ := hQ3843
          have N3844 := Fr.app N3842 Nq3843
          show own_Go _ _ _ _ _ (State.setTop _ (mkF _ 165 _ [(.int (1 : Int32)), (.int (0 : Int32))]))
          refine own_ifYes X3843 hx 172 (hb hby at_165) (by decide) (by decide) rfl ?_
          refine own_iconst X3843 hx 173 rfl (hb hby at_172) (0 : Int32) rfl ?_
          refine own_icmpNo X3843 hx 176 rfl (hb hby at_173) (by decide) ?_
          refine own_iconst X3843 hx 177 rfl (hb hby at_176) (1 : Int32) rfl ?_
          refine own_goto X3843 hx 181 (hb hby at_177) (by decide) rfl ?_
          refine own_ret X3843 (some (.int (1 : Int32))) (fun h => by rw [Bd.returns] at h; cases h) Bd.notSynchronized (by decide) (by decide) ?_ (fun fs hr => retN X3843 hx (t := .boolean) Bd.returns (by simp) (hb hby at_181) hr)
          show Q_rm0 Z i0 i1 i2 i3 i4 i5 h0 n0 _ T3843.heap _
          rw [e3843]
          exact ⟨rfl, N3844⟩
        ·
          refine own_ifNo X3824 hx 128 rfl (hb hby at_125) ((if0 _ _).trans (feq hc3840).1) ?_
          refine own_aload X3824 hx 130 rfl (hb hby at_128) rfl rfl ?_
          refine own_virtual X3824 hx hZ (y := (⟨"com/example/prizepath/prizepath/Insertions", "clear", "()V"⟩ : MethodName)) (z := (⟨"com/example/prizepath/prizepath/Insertions", "clear", "()V"⟩ : MethodName)) hown (own_hw hw 21 rfl) (own_hw hw 22 rfl) (own_hw hw 24 rfl) (own_hw hw 23 rfl) rfl (a := b3698) f3827 (by decide) (rm_clear l Z a0 hw [] b3698 (1 : Int32) T3824.heap n0 z3839 f3827 f3825 ge3699) (own_hw hw 25 rfl) (own_hw hw 2 rfl) (by decide) rfl (by rw [hml]; rfl) [] 0 (by decide) (Nat.le_of_eq rfl) (by decide) (by decide) (lenOf own_pd6 rfl) rfl rfl 133 rfl (hb hby at_130) fun v3845 T3845 Lc3845 X3845 hQ3845 => ?_
          obtain ⟨rfl, Nq3845, Kq3845, f3846⟩ := hQ3845
          have N3847 := Fr.app N3826 Nq3845
          have f3848 := f3827.keep Kq3845
          have z3850 := Nat.le_trans z3839 Kq3845.1
          show own_Go _ _ _ _ _ (State.setTop _ (mkF _ 133 _ []))
          refine own_iconst X3845 hx 134 rfl (hb hby at_133) (0 : Int32) rfl ?_
          refine own_istore X3845 hx 136 rfl (hb hby at_134) #[.val (.int i0), .val (.int i1), .val (.int i2), .val (.int i3), .val (.int i4), .val (.int i5), .val (.int (2 : Int32)), .val (.ref b3698), .val (.int (0 : Int32)), .val (.int (0 : Int32))] rfl ?_
          refine own_aload X3845 hx 138 rfl (hb hby at_136) rfl rfl ?_
          refine own_virtual X3845 hx hZ (y := (⟨"com/example/prizepath/prizepath/Insertions", "isEmpty", "()Z"⟩ : MethodName)) (z := (⟨"com/example/prizepath/prizepath/Insertions", "isEmpty", "()Z"⟩ : MethodName)) hown (own_hw hw 28 rfl) (own_hw hw 29 rfl) (own_hw hw 31 rfl) (own_hw hw 30 rfl) rfl (a := b3698) f3848 (by decide) (rm_empty0 l Z a0 hw [] b3698 T3845.heap n0 z3850 f3846) (own_hw hw 32 rfl) (own_hw hw 2 rfl) (by decide) rfl (by rw [hml]; rfl) [] 0 (by decide) (Nat.le_of_eq rfl) (by decide) (by decide) (lenOf own_pd9 rfl) rfl rfl 141 rfl (hb hby at_138) fun v3851 T3851 Lc3851 X3851 hQ3851 => ?_
          obtain ⟨rfl, Nq3851, e3851⟩ := hQ3851
          have N3852 := Fr.app N3847 Nq3851
          show own_Go _ _ _ _ _ (State.setTop _ (mkF _ 141 _ [(.int (1 : Int32))]))
          refine own_istore X3851 hx 143 rfl (hb hby at_141) #[.val (.int i0), .val (.int i1), .val (.int i2), .val (.int i3), .val (.int i4), .val (.int i5), .val (.int (2 : Int32)), .val (.ref b3698), .val (.int (0 : Int32)), .val (.int (1 : Int32))] rfl ?_
          refine own_iload X3851 hx 145 rfl (hb hby at_143) rfl ?_
          refine own_iload X3851 hx 147 rfl (hb hby at_145) rfl ?_
          refine own_ifNo X3851 hx 150 rfl (hb hby at_147) (by decide) ?_
          refine own_iconst X3851 hx 151 rfl (hb hby at_150) (1 : Int32) rfl ?_
          refine own_goto X3851 hx 155 (hb hby at_151) (by decide) rfl ?_
          refine own_icmpNo X3851 hx 158 rfl (hb hby at_155) (by decide) ?_
          refine own_iload X3851 hx 160 rfl (hb hby at_158) rfl ?_
          refine own_aload X3851 hx 162 rfl (hb hby at_160) rfl rfl ?_
          refine own_virtual X3851 hx hZ (y := (⟨"com/example/prizepath/prizepath/Insertions", "size", "()I"⟩ : MethodName)) (z := (⟨"com/example/prizepath/prizepath/Insertions", "size", "()I"⟩ : MethodName)) hown (own_hw hw 33 rfl) (own_hw hw 34 rfl) (own_hw hw 36 rfl) (own_hw hw 35 rfl) rfl (a := b3698) f3848 (by decide) (rm_size l Z a0 hw [] b3698 (0 : Int32) T3845.heap n0 z3850 f3846) (own_hw hw 37 rfl) (own_hw hw 2 rfl) (by decide) e3851 (by rw [hml]; rfl) [] 1 (by decide) (Nat.le_of_eq rfl) (by decide) (by decide) (lenOf own_pd10 rfl) rfl rfl 165 rfl (hb hby at_162) fun v3853 T3853 Lc3853 X3853 hQ3853 => ?_
          obtain ⟨rfl, Nq3853, e3853⟩ := hQ3853
          have N3854 := Fr.app N3852 Nq3853
          show own_Go _ _ _ _ _ (State.setTop _ (mkF _ 165 _ [(.int (0 : Int32)), (.int (1 : Int32))]))
          refine own_ifNo X3853 hx 168 rfl (hb hby at_165) (by decide) ?_
          refine own_iconst X3853 hx 169 rfl (hb hby at_168) (1 : Int32) rfl ?_
          refine own_goto X3853 hx 173 (hb hby at_169) (by decide) rfl ?_
          refine own_icmpNo X3853 hx 176 rfl (hb hby at_173) (by decide) ?_
          refine own_iconst X3853 hx 177 rfl (hb hby at_176) (1 : Int32) rfl ?_
          refine own_goto X3853 hx 181 (hb hby at_177) (by decide) rfl ?_
          refine own_ret X3853 (some (.int (1 : Int32))) (fun h => by rw [Bd.returns] at h; cases h) Bd.notSynchronized (by decide) (by decide) ?_ (fun fs hr => retN X3853 hx (t := .boolean) Bd.returns (by simp) (hb hby at_181) hr)
          show Q_rm0 Z i0 i1 i2 i3 i4 i5 h0 n0 _ T3853.heap _
          rw [e3853]
          exact ⟨rfl, N3854⟩
      ·
        show own_Go _ _ _ _ _ (State.setTop _ (mkF _ 105 #[.val (.int i0), .val (.int i1), .val (.int i2), .val (.int i3), .val (.int i4), .val (.int i5), .val (.int (2 : Int32)), .val (.ref b3698), .val (.int (2 : Int32)), .unset] [(.int (1 : Int32))]))
        refine own_istore X3773 hx 107 rfl (hb hby at_105) #[.val (.int i0), .val (.int i1), .val (.int i2), .val (.int i3), .val (.int i4), .val (.int i5), .val (.int (2 : Int32)), .val (.ref b3698), .val (.int (2 : Int32)), .val (.int (1 : Int32))] rfl ?_
        refine own_aload X3773 hx 109 rfl (hb hby at_107) rfl rfl ?_
        refine own_iload X3773 hx 111 rfl (hb hby at_109) rfl ?_
        refine own_virtual X3773 hx hZ (y := (⟨"com/example/prizepath/prizepath/Insertions", "take", "(I)Lcom/example/prizepath/prizepath/Insertions$Insertion;"⟩ : MethodName)) (z := (⟨"com/example/prizepath/prizepath/Insertions", "take", "(I)Lcom/example/prizepath/prizepath/Insertions$Insertion;"⟩ : MethodName)) hown (own_hw hw 44 rfl) (own_hw hw 45 rfl) (own_hw hw 47 rfl) (own_hw hw 46 rfl) rfl (a := b3698) f3785 (by decide) (rm_take21 l Z a0 hw [] b3698 a1_3707 a2_3707 a3_3707 a4_3707 a5_3707 k1_3707 k2_3707 k3_3707 k4_3707 k5_3707 i1 i2 (0 : Int32) i2 i3 (0 : Int32) i3 i1 (0 : Int32) (FP.i2d (i4 &&& (7 : Int32))) (FP.i2d ((i4 >>> ((3 : Int32) &&& 31)) &&& (7 : Int32))) (0 : UInt64) T3773.heap n0 z3797 f3785 f3778 f3779 f3780 f3781 f3782 f3774 f3775 f3776 f3777 f3786 f3783 ge3699 ge3719 ge3720 ge3721 ge3722 ge3723 ne3724 ne3725 ne3726 ne3727 ne3728 ne3729 ne3730 ne3731 ne3732 ne3733 ne3734 ne3735 ne3736 ne3737 ne3738 (dcmpV_self (own_is.i2d _).nn .l) (dcmpV_self (own_is.i2d _).nn .l) (by decide +kernel)) (own_hw hw 48 rfl) (own_hw hw 2 rfl) (by decide) rfl (by rw [hml]; rfl) [(.int (1 : Int32))] 0 (by decide) (Nat.le_of_eq rfl) (by decide) (by decide) (lenOf own_pd12 rfl) rfl rfl 114 rfl (hb hby at_111) fun v3855 T3855 Lc3855 X3855 hQ3855 => ?_
        obtain ⟨r3855, rfl, Nq3855, Kq3855, f3856⟩ := hQ3855
        have N3857 := Fr.app N3784 Nq3855
        have f3858 := f3785.keep Kq3855
        have z3870 := Nat.le_trans z3797 Kq3855.1
        show own_Go _ _ _ _ _ (State.setTop _ (mkF _ 114 _ [(.ref r3855)]))
        refine own_pop X3855 hx 115 rfl (hb hby at_114) rfl ?_
        refine own_iload X3855 hx 117 rfl (hb hby at_115) rfl ?_
        refine own_iconst X3855 hx 118 rfl (hb hby at_117) (1 : Int32) rfl ?_
        refine own_isub X3855 hx 119 rfl (hb hby at_118) (1 : Int32) rfl ?_
        refine own_istore X3855 hx 121 rfl (hb hby at_119) #[.val (.int i0), .val (.int i1), .val (.int i2), .val (.int i3), .val (.int i4), .val (.int i5), .val (.int (2 : Int32)), .val (.ref b3698), .val (.int (1 : Int32)), .val (.int (1 : Int32))] rfl ?_
        refine own_iload X3855 hx 123 rfl (hb hby at_121) rfl ?_
        refine own_iconst X3855 hx 124 rfl (hb hby at_123) (2 : Int32) rfl ?_
        refine own_iand X3855 hx 125 rfl (hb hby at_124) _ rfl ?_
        by_cases hc3871 : (i5 &&& (2 : Int32)) = (0 : Int32)
        ·
          refine own_ifYes X3855 hx 136 (hb hby at_125) ((if0 _ _).trans (teq hc3871).1) (by decide) rfl ?_
          refine own_aload X3855 hx 138 rfl (hb hby at_136) rfl rfl ?_
          refine own_virtual X3855 hx hZ (y := (⟨"com/example/prizepath/prizepath/Insertions", "isEmpty", "()Z"⟩ : MethodName)) (z := (⟨"com/example/prizepath/prizepath/Insertions", "isEmpty", "()Z"⟩ : MethodName)) hown (own_hw hw 28 rfl) (own_hw hw 29 rfl) (own_hw hw 31 rfl) (own_hw hw 30 rfl) rfl (a := b3698) f3858 (by decide) (rm_empty1 l Z a0 hw [] b3698 T3855.heap n0 z3870 f3856) (own_hw hw 32 rfl) (own_hw hw 2 rfl) (by decide) rfl (by rw [hml]; rfl) [] 0 (by decide) (Nat.le_of_eq rfl) (by decide) (by decide) (lenOf own_pd9 rfl) rfl rfl 141 rfl (hb hby at_138) fun v3872 T3872 Lc3872 X3872 hQ3872 => ?_
          obtain ⟨rfl, Nq3872, e3872⟩ := hQ3872
          have N3873 := Fr.app N3857 Nq3872
          show own_Go _ _ _ _ _ (State.setTop _ (mkF _ 141 _ [(.int (0 : Int32))]))
          refine own_istore X3872 hx 143 rfl (hb hby at_141) #[.val (.int i0), .val (.int i1), .val (.int i2), .val (.int i3), .val (.int i4), .val (.int i5), .val (.int (2 : Int32)), .val (.ref b3698), .val (.int (1 : Int32)), .val (.int (0 : Int32))] rfl ?_
          refine own_iload X3872 hx 145 rfl (hb hby at_143) rfl ?_
          refine own_iload X3872 hx 147 rfl (hb hby at_145) rfl ?_
          refine own_ifYes X3872 hx 154 (hb hby at_147) (by decide) (by decide) rfl ?_
          refine own_iconst X3872 hx 155 rfl (hb hby at_154) (0 : Int32) rfl ?_
          refine own_icmpNo X3872 hx 158 rfl (hb hby at_155) (by decide) ?_
          refine own_iload X3872 hx 160 rfl (hb hby at_158) rfl ?_
          refine own_aload X3872 hx 162 rfl (hb hby at_160) rfl rfl ?_
          refine own_virtual X3872 hx hZ (y := (⟨"com/example/prizepath/prizepath/Insertions", "size", "()I"⟩ : MethodName)) (z := (⟨"com/example/prizepath/prizepath/Insertions", "size", "()I"⟩ : MethodName)) hown (own_hw hw 33 rfl) (own_hw hw 34 rfl) (own_hw hw 36 rfl) (own_hw hw 35 rfl) rfl (a := b3698) f3858 (by decide) (rm_size l Z a0 hw [] b3698 (1 : Int32) T3855.heap n0 z3870 f3856) (own_hw hw 37 rfl) (own_hw hw 2 rfl) (by decide) e3872 (by rw [hml]; rfl) [] 1 (by decide) (Nat.le_of_eq rfl) (by decide) (by decide) (lenOf own_pd10 rfl) rfl rfl 165 rfl (hb hby at_162) fun v3874 T3874 Lc3874 X3874 hQ3874 => ?_
          obtain ⟨rfl, Nq3874, e3874⟩ := hQ3874
          have N3875 := Fr.app N3873 Nq3874
          show own_Go _ _ _ _ _ (State.setTop _ (mkF _ 165 _ [(.int (1 : Int32)), (.int (0 : Int32))]))
          refine own_ifYes X3874 hx 172 (hb hby at_165) (by decide) (by decide) rfl ?_
          refine own_iconst X3874 hx 173 rfl (hb hby at_172) (0 : Int32) rfl ?_
          refine own_icmpNo X3874 hx 176 rfl (hb hby at_173) (by decide) ?_
          refine own_iconst X3874 hx 177 rfl (hb hby at_176) (1 : Int32) rfl ?_
          refine own_goto X3874 hx 181 (hb hby at_177) (by decide) rfl ?_
          refine own_ret X3874 (some (.int (1 : Int32))) (fun h => by rw [Bd.returns] at h; cases h) Bd.notSynchronized (by decide) (by decide) ?_ (fun fs hr => retN X3874 hx (t := .boolean) Bd.returns (by simp) (hb hby at_181) hr)
          show Q_rm0 Z i0 i1 i2 i3 i4 i5 h0 n0 _ T3874.heap _
          rw [e3874]
          exact ⟨rfl, N3875⟩
        ·
          refine own_ifNo X3855 hx 128 rfl (hb hby at_125) ((if0 _ _).trans (feq hc3871).1) ?_
          refine own_aload X3855 hx 130 rfl (hb hby at_128) rfl rfl ?_
          refine own_virtual X3855 hx hZ (y := (⟨"com/example/prizepath/prizepath/Insertions", "clear", "()V"⟩ : MethodName)) (z := (⟨"com/example/prizepath/prizepath/Insertions", "clear", "()V"⟩ : MethodName)) hown (own_hw hw 21 rfl) (own_hw hw 22 rfl) (own_hw hw 24 rfl) (own_hw hw 23 rfl) rfl (a := b3698) f3858 (by decide) (rm_clear l Z a0 hw [] b3698 (1 : Int32) T3855.heap n0 z3870 f3858 f3856 ge3699) (own_hw hw 25 rfl) (own_hw hw 2 rfl) (by decide) rfl (by rw [hml]; rfl) [] 0 (by decide) (Nat.le_of_eq rfl) (by decide) (by decide) (lenOf own_pd6 rfl) rfl rfl 133 rfl (hb hby at_130) fun v3876 T3876 Lc3876 X3876 hQ3876 => ?_
          obtain ⟨rfl, Nq3876, Kq3876, f3877⟩ := hQ3876
          have N3878 := Fr.app N3857 Nq3876
          have f3879 := f3858.keep Kq3876
          have z3881 := Nat.le_trans z3870 Kq3876.1
          show own_Go _ _ _ _ _ (State.setTop _ (mkF _ 133 _ []))
          refine own_iconst X3876 hx 134 rfl (hb hby at_133) (0 : Int32) rfl ?_
          refine own_istore X3876 hx 136 rfl (hb hby at_134) #[.val (.int i0), .val (.int i1), .val (.int i2), .val (.int i3), .val (.int i4), .val (.int i5), .val (.int (2 : Int32)), .val (.ref b3698), .val (.int (0 : Int32)), .val (.int (1 : Int32))] rfl ?_
          refine own_aload X3876 hx 138 rfl (hb hby at_136) rfl rfl ?_
          refine own_virtual X3876 hx hZ (y := (⟨"com/example/prizepath/prizepath/Insertions", "isEmpty", "()Z"⟩ : MethodName)) (z := (⟨"com/example/prizepath/prizepath/Insertions", "isEmpty", "()Z"⟩ : MethodName)) hown (own_hw hw 28 rfl) (own_hw hw 29 rfl) (own_hw hw 31 rfl) (own_hw hw 30 rfl) rfl (a := b3698) f3879 (by decide) (rm_empty0 l Z a0 hw [] b3698 T3876.heap n0 z3881 f3877) (own_hw hw 32 rfl) (own_hw hw 2 rfl) (by decide) rfl (by rw [hml]; rfl) [] 0 (by decide) (Nat.le_of_eq rfl) (by decide) (by decide) (lenOf own_pd9 rfl) rfl rfl 141 rfl (hb hby at_138) fun v3882 T3882 Lc3882 X3882 hQ3882 => ?_
          obtain ⟨rfl, Nq3882, e3882⟩ := hQ3882
          have N3883 := Fr.app N3878 Nq3882
          show own_Go _ _ _ _ _ (State.setTop _ (mkF _ 141 _ [(.int (1 : Int32))]))
          refine own_istore X3882 hx 143 rfl (hb hby at_141) #[.val (.int i0), .val (.int i1), .val (.int i2), .val (.int i3), .val (.int i4), .val (.int i5), .val (.int (2 : Int32)), .val (.ref b3698), .val (.int (0 : Int32)), .val (.int (1 : Int32))] rfl ?_
          refine own_iload X3882 hx 145 rfl (hb hby at_143) rfl ?_
          refine own_iload X3882 hx 147 rfl (hb hby at_145) rfl ?_
          refine own_ifNo X3882 hx 150 rfl (hb hby at_147) (by decide) ?_
          refine own_iconst X3882 hx 151 rfl (hb hby at_150) (1 : Int32) rfl ?_
          refine own_goto X3882 hx 155 (hb hby at_151) (by decide) rfl ?_
          refine own_icmpNo X3882 hx 158 rfl (hb hby at_155) (by decide) ?_
          refine own_iload X3882 hx 160 rfl (hb hby at_158) rfl ?_
          refine own_aload X3882 hx 162 rfl (hb hby at_160) rfl rfl ?_
          refine own_virtual X3882 hx hZ (y := (⟨"com/example/prizepath/prizepath/Insertions", "size", "()I"⟩ : MethodName)) (z := (⟨"com/example/prizepath/prizepath/Insertions", "size", "()I"⟩ : MethodName)) hown (own_hw hw 33 rfl) (own_hw hw 34 rfl) (own_hw hw 36 rfl) (own_hw hw 35 rfl) rfl (a := b3698) f3879 (by decide) (rm_size l Z a0 hw [] b3698 (0 : Int32) T3876.heap n0 z3881 f3877) (own_hw hw 37 rfl) (own_hw hw 2 rfl) (by decide) e3882 (by rw [hml]; rfl) [] 1 (by decide) (Nat.le_of_eq rfl) (by decide) (by decide) (lenOf own_pd10 rfl) rfl rfl 165 rfl (hb hby at_162) fun v3884 T3884 Lc3884 X3884 hQ3884 => ?_
          obtain ⟨rfl, Nq3884, e3884⟩ := hQ3884
          have N3885 := Fr.app N3883 Nq3884
          show own_Go _ _ _ _ _ (State.setTop _ (mkF _ 165 _ [(.int (0 : Int32)), (.int (1 : Int32))]))
          refine own_ifNo X3884 hx 168 rfl (hb hby at_165) (by decide) ?_
          refine own_iconst X3884 hx 169 rfl (hb hby at_168) (1 : Int32) rfl ?_
          refine own_goto X3884 hx 173 (hb hby at_169) (by decide) rfl ?_
          refine own_icmpNo X3884 hx 176 rfl (hb hby at_173) (by decide) ?_
          refine own_iconst X3884 hx 177 rfl (hb hby at_176) (1 : Int32) rfl ?_
          refine own_goto X3884 hx 181 (hb hby at_177) (by decide) rfl ?_
          refine own_ret X3884 (some (.int (1 : Int32))) (fun h => by rw [Bd.returns] at h; cases h) Bd.notSynchronized (by decide) (by decide) ?_ (fun fs hr => retN X3884 hx (t := .boolean) Bd.returns (by simp) (hb hby at_181) hr)
          show Q_rm0 Z i0 i1 i2 i3 i4 i5 h0 n0 _ T3884.heap _
          rw [e3884]
          exact ⟨rfl, N3885⟩
  ·
    show own_Go _ _ _ _ _ (State.setTop _ (mkF _ 3 #[.val (.int i0), .val (.int i1), .val (.int i2), .val (.int i3), .val (.int i4), .val (.int i5), .unset, .unset, .unset, .unset] [(.int (3 : Int32))]))
    refine own_istore X0 hx 5 rfl (hb hby at_3) #[.val (.int i0), .val (.int i1), .val (.int i2), .val (.int i3), .val (.int i4), .val (.int i5), .val (.int (3 : Int32)), .unset, .unset, .unset] rfl ?_
    refine own_new X0 hx hZ hown (own_hw hw 0 rfl) (own_hw hw 1 rfl) (own_hw hw 2 rfl) e0 8 rfl (hb hby at_5) (by decide) (by decide) fun T3886 h3886 b3886 g3886 X3886 e3886 E3886 A3886 D3886 => ?_
    have ge3887 : n0 ≤ b3886 := Nat.le_trans Z0 (Nat.le_of_eq g3886.symm)
    have z3888 := Nat.le_trans Z0 E3886.1
    have f3889 : Fld Z h3886 b3886 "com/example/prizepath/prizepath/Insertions" "customers" "[I" .null := D3886 (Or.inl (own_hw hw 11 rfl)) (ty := (.array .int)) (by decide)
    have f3890 : Fld Z h3886 b3886 "com/example/prizepath/prizepath/Insertions" "routes" "[I" .null := D3886 (Or.inl (own_hw hw 13 rfl)) (ty := (.array .int)) (by decide)
    have f3891 : Fld Z h3886 b3886 "com/example/prizepath/prizepath/Insertions" "places" "[I" .null := D3886 (Or.inl (own_hw hw 15 rfl)) (ty := (.array .int)) (by decide)
    have f3892 : Fld Z h3886 b3886 "com/example/prizepath/prizepath/Insertions" "ranks" "[D" .null := D3886 (Or.inl (own_hw hw 18 rfl)) (ty := (.array .double)) (by decide)
    have f3893 : Fld Z h3886 b3886 "com/example/prizepath/prizepath/Insertions" "kept" "[I" .null := D3886 (Or.inl (own_hw hw 20 rfl)) (ty := (.array .int)) (by decide)
    have f3894 : Fld Z h3886 b3886 "com/example/prizepath/prizepath/Insertions" "size" "I" (.int (0 : Int32)) := D3886 (Or.inl (own_hw hw 27 rfl)) (ty := .int) (by decide)
    refine own_dup X3886 hx 9 rfl (hb hby at_8) rfl ?_
    refine own_special X3886 hx hZ (y := (⟨"com/example/prizepath/prizepath/Insertions", "<init>", "()V"⟩ : MethodName)) hown rfl (own_hw hw 3 rfl) (own_hw hw 4 rfl) (a := b3886) (by decide) rfl (rm_init l Z a0 hw [] b3886 h3886 n0 z3888 A3886 f3889 f3890 f3891 f3892 f3893 f3894 ge3887) (own_hw hw 5 rfl) (own_hw hw 2 rfl) (by decide) e3886 (by rw [hml]; rfl) [] 1 (by decide) (Nat.le_of_eq rfl) (by decide) (by decide) (lenOf own_pd6 rfl) rfl rfl 12 rfl (hb hby at_9) fun v3895 T3895 Lc3895 X3895 hQ3895 => ?_
    obtain ⟨a1_3895, a2_3895, a3_3895, a4_3895, a5_3895, k1_3895, k2_3895, k3_3895, k4_3895, k5_3895, rfl, Nq3895, Kq3895, f3896, f3897, f3898, f3899, f3900, f3901, f3902, f3903, f3904, f3905, f3906, ge3907, ge3908, ge3909, ge3910, ge3911, ne3912, ne3913, ne3914, ne3915, ne3916, ne3917, ne3918, ne3919, ne3920, ne3921, ne3922, ne3923, ne3924, ne3925, ne3926⟩ := hQ3895
    have N3927 := Fr.app N0 Nq3895
    have f3928 := A3886.keep Kq3895
    have z3935 := Nat.le_trans z3888 Kq3895.1
    show own_Go _ _ _ _ _ (State.setTop _ (mkF _ 12 _ [(.ref b3886)]))
    refine own_astore X3895 hx 14 rfl (hb hby at_12) rfl #[.val (.int i0), .val (.int i1), .val (.int i2), .val (.int i3), .val (.int i4), .val (.int i5), .val (.int (3 : Int32)), .val (.ref b3886), .unset, .unset] rfl ?_
    refine own_iload X3895 hx 16 rfl (hb hby at_14) rfl ?_
    refine own_iconst X3895 hx 17 rfl (hb hby at_16) (1 : Int32) rfl ?_
    refine own_icmpNo X3895 hx 20 rfl (hb hby at_17) (by decide) ?_
    refine own_aload X3895 hx 22 rfl (hb hby at_20) rfl rfl ?_
    refine own_iloadN X3895 hx 23 rfl (hb hby at_22) rfl ?_
    refine own_iloadN X3895 hx 24 rfl (hb hby at_23) rfl ?_
    refine own_iloadN X3895 hx 25 rfl (hb hby at_24) rfl ?_
    refine own_iload X3895 hx 27 rfl (hb hby at_25) rfl ?_
    refine own_bipush X3895 hx 29 rfl (hb hby at_27) (7 : Int32) rfl ?_
    refine own_iand X3895 hx 30 rfl (hb hby at_29) _ rfl ?_
    refine own_i2d X3895 hx 31 rfl (hb hby at_30) _ rfl ?_
    refine own_virtual X3895 hx hZ (y := (⟨"com/example/prizepath/prizepath/Insertions", "add", "(IIID)V"⟩ : MethodName)) (z := (⟨"com/example/prizepath/prizepath/Insertions", "add", "(IIID)V"⟩ : MethodName)) hown (own_hw hw 38 rfl) (own_hw hw 39 rfl) (own_hw hw 41 rfl) (own_hw hw 40 rfl) rfl (a := b3886) f3928 (by decide) (rm_add0 l Z a0 hw [] b3886 i1 i2 i3 (FP.i2d (i4 &&& (7 : Int32))) a1_3895 a2_3895 a3_3895 a4_3895 a5_3895 k1_3895 k2_3895 k3_3895 k4_3895 (0 : Int32) (0 : Int32) (0 : Int32) (0 : Int32) (0 : Int32) (0 : Int32) (0 : Int32) (0 : Int32) (0 : Int32) (0 : UInt64) (0 : UInt64) (0 : UInt64) T3895.heap n0 z3935 f3928 f3896 f3897 f3898 f3899 f3900 f3902 f3903 f3904 f3905 f3901 ge3887 ge3907 ge3908 ge3909 ge3910 ne3912 ne3913 ne3914 ne3915 ne3916 ne3917 ne3918 ne3919 ne3920 ne3921) (own_hw hw 42 rfl) (own_hw hw 2 rfl) (by decide) rfl (by rw [hml]; rfl) [(.int i1), (.int i2), (.int i3), (.double (FP.i2d (i4 &&& (7 : Int32))))] 0 (by decide) (Nat.le_of_eq rfl) (by decide) (by decide) (lenOf own_pd11 rfl) rfl rfl 34 rfl (hb hby at_31) fun v3936 T3936 Lc3936 X3936 hQ3936 => ?_
    obtain ⟨rfl, Nq3936, Kq3936, f3937, f3938, f3939, f3940, f3941, f3942, f3943, f3944, f3945, f3946⟩ := hQ3936
    have N3947 := Fr.app N3927 Nq3936
    have f3948 := f3928.keep Kq3936
    have f3959 := f3906.keep Kq3936 (ninS (Ne.symm ne3922) (ninS (Ne.symm ne3923) (ninS (Ne.symm ne3924) (ninS (Ne.symm ne3925) (ninS (Ne.symm ne3926) nin0)))))
    have z3960 := Nat.le_trans z3935 Kq3936.1
    show own_Go _ _ _ _ _ (State.setTop _ (mkF _ 34 _ []))
    refine own_iload X3936 hx 36 rfl (hb hby at_34) rfl ?_
    refine own_iconst X3936 hx 37 rfl (hb hby at_36) (2 : Int32) rfl ?_
    refine own_icmpNo X3936 hx 40 rfl (hb hby at_37) (by decide) ?_
    refine own_aload X3936 hx 42 rfl (hb hby at_40) rfl rfl ?_
    refine own_iloadN X3936 hx 43 rfl (hb hby at_42) rfl ?_
    refine own_iloadN X3936 hx 44 rfl (hb hby at_43) rfl ?_
    refine own_iloadN X3936 hx 45 rfl (hb hby at_44) rfl ?_
    refine own_iload X3936 hx 47 rfl (hb hby at_45) rfl ?_
    refine own_iconst X3936 hx 48 rfl (hb hby at_47) (3 : Int32) rfl ?_
    refine own_ishr X3936 hx 49 rfl (hb hby at_48) _ rfl ?_
    refine own_bipush X3936 hx 51 rfl (hb hby at_49) (7 : Int32) rfl ?_
    refine own_iand X3936 hx 52 rfl (hb hby at_51) _ rfl ?_
    refine own_i2d X3936 hx 53 rfl (hb hby at_52) _ rfl ?_
    refine own_virtual X3936 hx hZ (y := (⟨"com/example/prizepath/prizepath/Insertions", "add", "(IIID)V"⟩ : MethodName)) (z := (⟨"com/example/prizepath/prizepath/Insertions", "add", "(IIID)V"⟩ : MethodName)) hown (own_hw hw 38 rfl) (own_hw hw 39 rfl) (own_hw hw 41 rfl) (own_hw hw 40 rfl) rfl (a := b3886) f3948 (by decide) (rm_add1 l Z a0 hw [] b3886 i2 i3 i1 (FP.i2d ((i4 >>> ((3 : Int32) &&& 31)) &&& (7 : Int32))) a1_3895 a2_3895 a3_3895 a4_3895 a5_3895 k1_3895 k2_3895 k3_3895 k4_3895 i1 (0 : Int32) (0 : Int32) i2 (0 : Int32) (0 : Int32) i3 (0 : Int32) (0 : Int32) (FP.i2d (i4 &&& (7 : Int32))) (0 : UInt64) (0 : UInt64) T3936.heap n0 z3960 f3948 f3941 f3942 f3943 f3944 f3945 f3937 f3938 f3939 f3940 f3946 ge3887 ge3907 ge3908 ge3909 ge3910 ne3912 ne3913 ne3914 ne3915 ne3916 ne3917 ne3918 ne3919 ne3920 ne3921) (own_hw hw 42 rfl) (own_hw hw 2 rfl) (by decide) rfl (by rw [hml]; rfl) [(.int i2), (.int i3), (.int i1), (.double (FP.i2d ((i4 >>> ((3 : Int32) &&& 31)) &&& (7 : Int32))))] 0 (by decide) (Nat.le_of_eq rfl) (by decide) (by decide) (lenOf own_pd11 rfl) rfl rfl 56 rfl (hb hby at_53) fun v3961 T3961 Lc3961 X3961 hQ3961 => ?_
    obtain ⟨rfl, Nq3961, Kq3961, f3962, f3963, f3964, f3965, f3966, f3967, f3968, f3969, f3970, f3971⟩ := hQ3961
    have N3972 := Fr.app N3947 Nq3961
    have f3973 := f3948.keep Kq3961
    have f3974 := f3959.keep Kq3961 (ninS (Ne.symm ne3922) (ninS (Ne.symm ne3923) (ninS (Ne.symm ne3924) (ninS (Ne.symm ne3925) (ninS (Ne.symm ne3926) nin0)))))
    have z3985 := Nat.le_trans z3960 Kq3961.1
    show own_Go _ _ _ _ _ (State.setTop _ (mkF _ 56 _ []))
    refine own_iload X3961 hx 58 rfl (hb hby at_56) rfl ?_
    refine own_iconst X3961 hx 59 rfl (hb hby at_58) (3 : Int32) rfl ?_
    refine own_icmpNo X3961 hx 62 rfl (hb hby at_59) (by decide) ?_
    refine own_aload X3961 hx 64 rfl (hb hby at_62) rfl rfl ?_
    refine own_iloadN X3961 hx 65 rfl (hb hby at_64) rfl ?_
    refine own_iloadN X3961 hx 66 rfl (hb hby at_65) rfl ?_
    refine own_iloadN X3961 hx 67 rfl (hb hby at_66) rfl ?_
    refine own_iload X3961 hx 69 rfl (hb hby at_67) rfl ?_
    refine own_bipush X3961 hx 71 rfl (hb hby at_69) (6 : Int32) rfl ?_
    refine own_ishr X3961 hx 72 rfl (hb hby at_71) _ rfl ?_
    refine own_bipush X3961 hx 74 rfl (hb hby at_72) (7 : Int32) rfl ?_
    refine own_iand X3961 hx 75 rfl (hb hby at_74) _ rfl ?_
    refine own_i2d X3961 hx 76 rfl (hb hby at_75) _ rfl ?_
    refine own_virtual X3961 hx hZ (y := (⟨"com/example/prizepath/prizepath/Insertions", "add", "(IIID)V"⟩ : MethodName)) (z := (⟨"com/example/prizepath/prizepath/Insertions", "add", "(IIID)V"⟩ : MethodName)) hown (own_hw hw 38 rfl) (own_hw hw 39 rfl) (own_hw hw 41 rfl) (own_hw hw 40 rfl) rfl (a := b3886) f3973 (by decide) (rm_add2 l Z a0 hw [] b3886 i3 i1 i2 (FP.i2d ((i4 >>> ((6 : Int32) &&& 31)) &&& (7 : Int32))) a1_3895 a2_3895 a3_3895 a4_3895 a5_3895 k1_3895 k2_3895 k3_3895 k4_3895 i1 i2 (0 : Int32) i2 i3 (0 : Int32) i3 i1 (0 : Int32) (FP.i2d (i4 &&& (7 : Int32))) (FP.i2d ((i4 >>> ((3 : Int32) &&& 31)) &&& (7 : Int32))) (0 : UInt64) T3961.heap n0 z3985 f3973 f3966 f3967 f3968 f3969 f3970 f3962 f3963 f3964 f3965 f3971 ge3887 ge3907 ge3908 ge3909 ge3910 ne3912 ne3913 ne3914 ne3915 ne3916 ne3917 ne3918 ne3919 ne3920 ne3921) (own_hw hw 42 rfl) (own_hw hw 2 rfl) (by decide) rfl (by rw [hml]; rfl) [(.int i3), (.int i1), (.int i2), (.double (FP.i2d ((i4 >>> ((6 : Int32) &&& 31)) &&& (7 : Int32))))] 0 (by decide) (Nat.le_of_eq rfl) (by decide) (by decide) (lenOf own_pd11 rfl) rfl rfl 79 rfl (hb hby at_76) fun v3986 T3986 Lc3986 X3986 hQ3986 => ?_
    obtain ⟨rfl, Nq3986, Kq3986, f3987, f3988, f3989, f3990, f3991, f3992, f3993, f3994, f3995, f3996⟩ := hQ3986
    have N3997 := Fr.app N3972 Nq3986
    have f3998 := f3973.keep Kq3986
    have f3999 := f3974.keep Kq3986 (ninS (Ne.symm ne3922) (ninS (Ne.symm ne3923) (ninS (Ne.symm ne3924) (ninS (Ne.symm ne3925) (ninS (Ne.symm ne3926) nin0)))))
    have z4010 := Nat.le_trans z3985 Kq3986.1
    show own_Go _ _ _ _ _ (State.setTop _ (mkF _ 79 _ []))
    refine own_iload X3986 hx 81 rfl (hb hby at_79) rfl ?_
    refine own_istore X3986 hx 83 rfl (hb hby at_81) #[.val (.int i0), .val (.int i1), .val (.int i2), .val (.int i3), .val (.int i4), .val (.int i5), .val (.int (3 : Int32)), .val (.ref b3886), .val (.int (3 : Int32)), .unset] rfl ?_
    refine own_iload X3986 hx 85 rfl (hb hby at_83) rfl ?_
    refine own_iconst X3986 hx 86 rfl (hb hby at_85) (1 : Int32) rfl ?_
    refine own_iand X3986 hx 87 rfl (hb hby at_86) _ rfl ?_
    by_cases hc4011 : (i5 &&& (1 : Int32)) = (0 : Int32)
    ·
      refine own_ifYes X3986 hx 121 (hb hby at_87) ((if0 _ _).trans (teq hc4011).1) (by decide) rfl ?_
      refine own_iload X3986 hx 123 rfl (hb hby at_121) rfl ?_
      refine own_iconst X3986 hx 124 rfl (hb hby at_123) (2 : Int32) rfl ?_
      refine own_iand X3986 hx 125 rfl (hb hby at_124) _ rfl ?_
      by_cases hc4012 : (i5 &&& (2 : Int32)) = (0 : Int32)
      ·
        refine own_ifYes X3986 hx 136 (hb hby at_125) ((if0 _ _).trans (teq hc4012).1) (by decide) rfl ?_
        refine own_aload X3986 hx 138 rfl (hb hby at_136) rfl rfl ?_
        refine own_virtual X3986 hx hZ (y := (⟨"com/example/prizepath/prizepath/Insertions", "isEmpty", "()Z"⟩ : MethodName)) (z := (⟨"com/example/prizepath/prizepath/Insertions", "isEmpty", "()Z"⟩ : MethodName)) hown (own_hw hw 28 rfl) (own_hw hw 29 rfl) (own_hw hw 31 rfl) (own_hw hw 30 rfl) rfl (a := b3886) f3998 (by decide) (rm_empty3 l Z a0 hw [] b3886 T3986.heap n0 z4010 f3996) (own_hw hw 32 rfl) (own_hw hw 2 rfl) (by decide) rfl (by rw [hml]; rfl) [] 0 (by decide) (Nat.le_of_eq rfl) (by decide) (by decide) (lenOf own_pd9 rfl) rfl rfl 141 rfl (hb hby at_138) fun v4013 T4013 Lc4013 X4013 hQ4013 => ?_
        obtain ⟨rfl, Nq4013, e4013⟩ := hQ4013
        have N4014 := Fr.app N3997 Nq4013
        show own_Go _ _ _ _ _ (State.setTop _ (mkF _ 141 _ [(.int (0 : Int32))]))
        refine own_istore X4013 hx 143 rfl (hb hby at_141) #[.val (.int i0), .val (.int i1), .val (.int i2), .val (.int i3), .val (.int i4), .val (.int i5), .val (.int (3 : Int32)), .val (.ref b3886), .val (.int (3 : Int32)), .val (.int (0 : Int32))] rfl ?_
        refine own_iload X4013 hx 145 rfl (hb hby at_143) rfl ?_
        refine own_iload X4013 hx 147 rfl (hb hby at_145) rfl ?_
        refine own_ifYes X4013 hx 154 (hb hby at_147) (by decide) (by decide) rfl ?_
        refine own_iconst X4013 hx 155 rfl (hb hby at_154) (0 : Int32) rfl ?_
        refine own_icmpNo X4013 hx 158 rfl (hb hby at_155) (by decide) ?_
        refine own_iload X4013 hx 160 rfl (hb hby at_158) rfl ?_
        refine own_aload X4013 hx 162 rfl (hb hby at_160) rfl rfl ?_
        refine own_virtual X4013 hx hZ (y := (⟨"com/example/prizepath/prizepath/Insertions", "size", "()I"⟩ : MethodName)) (z := (⟨"com/example/prizepath/prizepath/Insertions", "size", "()I"⟩ : MethodName)) hown (own_hw hw 33 rfl) (own_hw hw 34 rfl) (own_hw hw 36 rfl) (own_hw hw 35 rfl) rfl (a := b3886) f3998 (by decide) (rm_size l Z a0 hw [] b3886 (3 : Int32) T3986.heap n0 z4010 f3996) (own_hw hw 37 rfl) (own_hw hw 2 rfl) (by decide) e4013 (by rw [hml]; rfl) [] 1 (by decide) (Nat.le_of_eq rfl) (by decide) (by decide) (lenOf own_pd10 rfl) rfl rfl 165 rfl (hb hby at_162) fun v4015 T4015 Lc4015 X4015 hQ4015 => ?_
        obtain ⟨rfl, Nq4015, e4015⟩ := hQ4015
        have N4016 := Fr.app N4014 Nq4015
        show own_Go _ _ _ _ _ (State.setTop _ (mkF _ 165 _ [(.int (3 : Int32)), (.int (0 : Int32))]))
        refine own_ifYes X4015 hx 172 (hb hby at_165) (by decide) (by decide) rfl ?_
        refine own_iconst X4015 hx 173 rfl (hb hby at_172) (0 : Int32) rfl ?_
        refine own_icmpNo X4015 hx 176 rfl (hb hby at_173) (by decide) ?_
        refine own_iconst X4015 hx 177 rfl (hb hby at_176) (1 : Int32) rfl ?_
        refine own_goto X4015 hx 181 (hb hby at_177) (by decide) rfl ?_
        refine own_ret X4015 (some (.int (1 : Int32))) (fun h => by rw [Bd.returns] at h; cases h) Bd.notSynchronized (by decide) (by decide) ?_ (fun fs hr => retN X4015 hx (t := .boolean) Bd.returns (by simp) (hb hby at_181) hr)
        show Q_rm0 Z i0 i1 i2 i3 i4 i5 h0 n0 _ T4015.heap _
        rw [e4015]
        exact ⟨rfl, N4016⟩
      ·
        refine own_ifNo X3986 hx 128 rfl (hb hby at_125) ((if0 _ _).trans (feq hc4012).1) ?_
        refine own_aload X3986 hx 130 rfl (hb hby at_128) rfl rfl ?_
        refine own_virtual X3986 hx hZ (y := (⟨"com/example/prizepath/prizepath/Insertions", "clear", "()V"⟩ : MethodName)) (z := (⟨"com/example/prizepath/prizepath/Insertions", "clear", "()V"⟩ : MethodName)) hown (own_hw hw 21 rfl) (own_hw hw 22 rfl) (own_hw hw 24 rfl) (own_hw hw 23 rfl) rfl (a := b3886) f3998 (by decide) (rm_clear l Z a0 hw [] b3886 (3 : Int32) T3986.heap n0 z4010 f3998 f3996 ge3887) (own_hw hw 25 rfl) (own_hw hw 2 rfl) (by decide) rfl (by rw [hml]; rfl) [] 0 (by decide) (Nat.le_of_eq rfl) (by decide) (by decide) (lenOf own_pd6 rfl) rfl rfl 133 rfl (hb hby at_130) fun v4017 T4017 Lc4017 X4017 hQ4017 => ?_
        obtain ⟨rfl, Nq4017, Kq4017, f4018⟩ := hQ4017
        have N4019 := Fr.app N3997 Nq4017
        have f4020 := f3998.keep Kq4017
        have f4021 := f3999.keep Kq4017 (ninS (Ne.symm ne3922) nin0)
        have f4022 := f3987.keep Kq4017 (ninS (Ne.symm ne3912) nin0)
        have f4023 := f3988.keep Kq4017 (ninS (Ne.symm ne3913) nin0)
        have f4024 := f3989.keep Kq4017 (ninS (Ne.symm ne3914) nin0)
        have f4025 := f3990.keep Kq4017 (ninS (Ne.symm ne3915) nin0)
        have z4032 := Nat.le_trans z4010 Kq4017.1
        show own_Go _ _ _ _ _ (State.setTop _ (mkF _ 133 _ []))
        refine own_iconst X4017 hx 134 rfl (hb hby at_133) (0 : Int32) rfl ?_
        refine own_istore X4017 hx 136 rfl (hb hby at_134) #[.val (.int i0), .val (.int i1), .val (.int i2), .val (.int i3), .val (.int i4), .val (.int i5), .val (.int (3 : Int32)), .val (.ref b3886), .val (.int (0 : Int32)), .unset] rfl ?_
        refine own_aload X4017 hx 138 rfl (hb hby at_136) rfl rfl ?_
        refine own_virtual X4017 hx hZ (y := (⟨"com/example/prizepath/prizepath/Insertions", "isEmpty", "()Z"⟩ : MethodName)) (z := (⟨"com/example/prizepath/prizepath/Insertions", "isEmpty", "()Z"⟩ : MethodName)) hown (own_hw hw 28 rfl) (own_hw hw 29 rfl) (own_hw hw 31 rfl) (own_hw hw 30 rfl) rfl (a := b3886) f4020 (by decide) (rm_empty0 l Z a0 hw [] b3886 T4017.heap n0 z4032 f4018) (own_hw hw 32 rfl) (own_hw hw 2 rfl) (by decide) rfl (by rw [hml]; rfl) [] 0 (by decide) (Nat.le_of_eq rfl) (by decide) (by decide) (lenOf own_pd9 rfl) rfl rfl 141 rfl (hb hby at_138) fun v4033 T4033 Lc4033 X4033 hQ4033 => ?_
        obtain ⟨rfl, Nq4033, e4033⟩ := hQ4033
        have N4034 := Fr.app N4019 Nq4033
        show own_Go _ _ _ _ _ (State.setTop _ (mkF _ 141 _ [(.int (1 : Int32))]))
        refine own_istore X4033 hx 143 rfl (hb hby at_141) #[.val (.int i0), .val (.int i1), .val (.int i2), .val (.int i3), .val (.int i4), .val (.int i5), .val (.int (3 : Int32)), .val (.ref b3886), .val (.int (0 : Int32)), .val (.int (1 : Int32))] rfl ?_
        refine own_iload X4033 hx 145 rfl (hb hby at_143) rfl ?_
        refine own_iload X4033 hx 147 rfl (hb hby at_145) rfl ?_
        refine own_ifNo X4033 hx 150 rfl (hb hby at_147) (by decide) ?_
        refine own_iconst X4033 hx 151 rfl (hb hby at_150) (1 : Int32) rfl ?_
        refine own_goto X4033 hx 155 (hb hby at_151) (by decide) rfl ?_
        refine own_icmpNo X4033 hx 158 rfl (hb hby at_155) (by decide) ?_
        refine own_iload X4033 hx 160 rfl (hb hby at_158) rfl ?_
        refine own_aload X4033 hx 162 rfl (hb hby at_160) rfl rfl ?_
        refine own_virtual X4033 hx hZ (y := (⟨"com/example/prizepath/prizepath/Insertions", "size", "()I"⟩ : MethodName)) (z := (⟨"com/example/prizepath/prizepath/Insertions", "size", "()I"⟩ : MethodName)) hown (own_hw hw 33 rfl) (own_hw hw 34 rfl) (own_hw hw 36 rfl) (own_hw hw 35 rfl) rfl (a := b3886) f4020 (by decide) (rm_size l Z a0 hw [] b3886 (0 : Int32) T4017.heap n0 z4032 f4018) (own_hw hw 37 rfl) (own_hw hw 2 rfl) (by decide) e4033 (by rw [hml]; rfl) [] 1 (by decide) (Nat.le_of_eq rfl) (by decide) (by decide) (lenOf own_pd10 rfl) rfl rfl 165 rfl (hb hby at_162) fun v4035 T4035 Lc4035 X4035 hQ4035 => ?_
        obtain ⟨rfl, Nq4035, e4035⟩ := hQ4035
        have N4036 := Fr.app N4034 Nq4035
        show own_Go _ _ _ _ _ (State.setTop _ (mkF _ 165 _ [(.int (0 : Int32)), (.int (1 : Int32))]))
        refine own_ifNo X4035 hx 168 rfl (hb hby at_165) (by decide) ?_
        refine own_iconst X4035 hx 169 rfl (hb hby at_168) (1 : Int32) rfl ?_
        refine own_goto X4035 hx 173 (hb hby at_169) (by decide) rfl ?_
        refine own_icmpNo X4035 hx 176 rfl (hb hby at_173) (by decide) ?_
        refine own_iconst X4035 hx 177 rfl (hb hby at_176) (1 : Int32) rfl ?_
        refine own_goto X4035 hx 181 (hb hby at_177) (by decide) rfl ?_
        refine own_ret X4035 (some (.int (1 : Int32))) (fun h => by rw [Bd.returns] at h; cases h) Bd.notSynchronized (by decide) (by decide) ?_ (fun fs hr => retN X4035 hx (t := .boolean) Bd.returns (by simp) (hb hby at_181) hr)
        show Q_rm0 Z i0 i1 i2 i3 i4 i5 h0 n0 _ T4035.heap _
        rw [e4035]
        exact ⟨rfl, N4036⟩
    ·
      refine own_ifNo X3986 hx 90 rfl (hb hby at_87) ((if0 _ _).trans (feq hc4011).1) ?_
      refine own_iload X3986 hx 92 rfl (hb hby at_90) rfl ?_
      refine own_ifNo X3986 hx 95 rfl (hb hby at_92) (by decide) ?_
      refine own_iload X3986 hx 97 rfl (hb hby at_95) rfl ?_
      refine own_iconst X3986 hx 98 rfl (hb hby at_97) (2 : Int32) rfl ?_
      refine own_iushr X3986 hx 99 rfl (hb hby at_98) _ rfl ?_
      refine own_ldcI X3986 hx hZ hown (own_hw hw 43 rfl) 101 rfl (hb hby at_99) ?_
      refine own_iand X3986 hx 102 rfl (hb hby at_101) _ rfl ?_
      show own_Go _ _ _ _ _ (State.setTop _ (mkF _ 102 _ [(.int (own_pl i5))]))
      refine own_iload X3986 hx 104 rfl (hb hby at_102) rfl ?_
      refine own_irem X3986 hx 105 rfl (hb hby at_104) (by decide) _ rfl ?_
      rcases own_rem3 i5 with hr | hr | hr <;> rw [hr]
      ·
        show own_Go _ _ _ _ _ (State.setTop _ (mkF _ 105 #[.val (.int i0), .val (.int i1), .val (.int i2), .val (.int i3), .val (.int i4), .val (.int i5), .val (.int (3 : Int32)), .val (.ref b3886), .val (.int (3 : Int32)), .unset] [(.int (0 : Int32))]))
        refine own_istore X3986 hx 107 rfl (hb hby at_105) #[.val (.int i0), .val (.int i1), .val (.int i2), .val (.int i3), .val (.int i4), .val (.int i5), .val (.int (3 : Int32)), .val (.ref b3886), .val (.int (3 : Int32)), .val (.int (0 : Int32))] rfl ?_
        refine own_aload X3986 hx 109 rfl (hb hby at_107) rfl rfl ?_
        refine own_iload X3986 hx 111 rfl (hb hby at_109) rfl ?_
        refine own_virtual X3986 hx hZ (y := (⟨"com/example/prizepath/prizepath/Insertions", "take", "(I)Lcom/example/prizepath/prizepath/Insertions$Insertion;"⟩ : MethodName)) (z := (⟨"com/example/prizepath/prizepath/Insertions", "take", "(I)Lcom/example/prizepath/prizepath/Insertions$Insertion;"⟩ : MethodName)) hown (own_hw hw 44 rfl) (own_hw hw 45 rfl) (own_hw hw 47 rfl) (own_hw hw 46 rfl) rfl (a := b3886) f3998 (by decide) (rm_take30 l Z a0 hw [] b3886 a1_3895 a2_3895 a3_3895 a4_3895 a5_3895 k1_3895 k2_3895 k3_3895 k4_3895 k5_3895 i1 i2 i3 i2 i3 i1 i3 i1 i2 (FP.i2d (i4 &&& (7 : Int32))) (FP.i2d ((i4 >>> ((3 : Int32) &&& 31)) &&& (7 : Int32))) (FP.i2d ((i4 >>> ((6 : Int32) &&& 31)) &&& (7 : Int32))) T3986.heap n0 z4010 f3998 f3991 f3992 f3993 f3994 f3995 f3987 f3988 f3989 f3990 f3999 f3996 ge3887 ge3907 ge3908 ge3909 ge3910 ge3911 ne3912 ne3913 ne3914 ne3915 ne3916 ne3917 ne3918 ne3919 ne3920 ne3921 ne3922 ne3923 ne3924 ne3925 ne3926 (dcmpV_self (own_is.i2d _).nn .l) (dcmpV_self (own_is.i2d _).nn .l) (dcmpV_self (own_is.i2d _).nn .l)) (own_hw hw 48 rfl) (own_hw hw 2 rfl) (by decide) rfl (by rw [hml]; rfl) [(.int (0 : Int32))] 0 (by decide) (Nat.le_of_eq rfl) (by decide) (by decide) (lenOf own_pd12 rfl) rfl rfl 114 rfl (hb hby at_111) fun v4037 T4037 Lc4037 X4037 hQ4037 => ?_
        obtain ⟨r4037, rfl, Nq4037, Kq4037, f4038⟩ := hQ4037
        have N4039 := Fr.app N3997 Nq4037
        have f4040 := f3998.keep Kq4037
        have z4052 := Nat.le_trans z4010 Kq4037.1
        show own_Go _ _ _ _ _ (State.setTop _ (mkF _ 114 _ [(.ref r4037)]))
        refine own_pop X4037 hx 115 rfl (hb hby at_114) rfl ?_
        refine own_iload X4037 hx 117 rfl (hb hby at_115) rfl ?_
        refine own_iconst X4037 hx 118 rfl (hb hby at_117) (1 : Int32) rfl ?_
        refine own_isub X4037 hx 119 rfl (hb hby at_118) (2 : Int32) rfl ?_
        refine own_istore X4037 hx 121 rfl (hb hby at_119) #[.val (.int i0), .val (.int i1), .val (.int i2), .val (.int i3), .val (.int i4), .val (.int i5), .val (.int (3 : Int32)), .val (.ref b3886), .val (.int (2 : Int32)), .val (.int (0 : Int32))] rfl ?_
        refine own_iload X4037 hx 123 rfl (hb hby at_121) rfl ?_
        refine own_iconst X4037 hx 124 rfl (hb hby at_123) (2 : Int32) rfl ?_
        refine own_iand X4037 hx 125 rfl (hb hby at_124) _ rfl ?_
        by_cases hc4053 : (i5 &&& (2 : Int32)) = (0 : Int32)
        ·
          refine own_ifYes X4037 hx 136 (hb hby at_125) ((if0 _ _).trans (teq hc4053).1) (by decide) rfl ?_
          refine own_aload X4037 hx 138 rfl (hb hby at_136) rfl rfl ?_
          refine own_virtual X4037 hx hZ (y := (⟨"com/example/prizepath/prizepath/Insertions", "isEmpty", "()Z"⟩ : MethodName)) (z := (⟨"com/example/prizepath/prizepath/Insertions", "isEmpty", "()Z"⟩ : MethodName)) hown (own_hw hw 28 rfl) (own_hw hw 29 rfl) (own_hw hw 31 rfl) (own_hw hw 30 rfl) rfl (a := b3886) f4040 (by decide) (rm_empty2 l Z a0 hw [] b3886 T4037.heap n0 z4052 f4038) (own_hw hw 32 rfl) (own_hw hw 2 rfl) (by decide) rfl (by rw [hml]; rfl) [] 0 (by decide) (Nat.le_of_eq rfl) (by decide) (by decide) (lenOf own_pd9 rfl) rfl rfl 141 rfl (hb hby at_138) fun v4054 T4054 Lc4054 X4054 hQ4054 => ?_
          obtain ⟨rfl, Nq4054, e4054⟩ := hQ4054
          have N4055 := Fr.app N4039 Nq4054
          show own_Go _ _ _ _ _ (State.setTop _ (mkF _ 141 _ [(.int (0 : Int32))]))
          refine own_istore X4054 hx 143 rfl (hb hby at_141) #[.val (.int i0), .val (.int i1), .val (.int i2), .val (.int i3), .val (.int i4), .val (.int i5), .val (.int (3 : Int32)), .val (.ref b3886), .val (.int (2 : Int32)), .val (.int (0 : Int32))] rfl ?_
          refine own_iload X4054 hx 145 rfl (hb hby at_143) rfl ?_
          refine own_iload X4054 hx 147 rfl (hb hby at_145) rfl ?_
          refine own_ifYes X4054 hx 154 (hb hby at_147) (by decide) (by decide) rfl ?_
          refine own_iconst X4054 hx 155 rfl (hb hby at_154) (0 : Int32) rfl ?_
          refine own_icmpNo X4054 hx 158 rfl (hb hby at_155) (by decide) ?_
          refine own_iload X4054 hx 160 rfl (hb hby at_158) rfl ?_
          refine own_aload X4054 hx 162 rfl (hb hby at_160) rfl rfl ?_
          refine own_virtual X4054 hx hZ (y := (⟨"com/example/prizepath/prizepath/Insertions", "size", "()I"⟩ : MethodName)) (z := (⟨"com/example/prizepath/prizepath/Insertions", "size", "()I"⟩ : MethodName)) hown (own_hw hw 33 rfl) (own_hw hw 34 rfl) (own_hw hw 36 rfl) (own_hw hw 35 rfl) rfl (a := b3886) f4040 (by decide) (rm_size l Z a0 hw [] b3886 (2 : Int32) T4037.heap n0 z4052 f4038) (own_hw hw 37 rfl) (own_hw hw 2 rfl) (by decide) e4054 (by rw [hml]; rfl) [] 1 (by decide) (Nat.le_of_eq rfl) (by decide) (by decide) (lenOf own_pd10 rfl) rfl rfl 165 rfl (hb hby at_162) fun v4056 T4056 Lc4056 X4056 hQ4056 => ?_
          obtain ⟨rfl, Nq4056, e4056⟩ := hQ4056
          have N4057 := Fr.app N4055 Nq4056
          show own_Go _ _ _ _ _ (State.setTop _ (mkF _ 165 _ [(.int (2 : Int32)), (.int (0 : Int32))]))
          refine own_ifYes X4056 hx 172 (hb hby at_165) (by decide) (by decide) rfl ?_
          refine own_iconst X4056 hx 173 rfl (hb hby at_172) (0 : Int32) rfl ?_
          refine own_icmpNo X4056 hx 176 rfl (hb hby at_173) (by decide) ?_
          refine own_iconst X4056 hx 177 rfl (hb hby at_176) (1 : Int32) rfl ?_
          refine own_goto X4056 hx 181 (hb hby at_177) (by decide) rfl ?_
          refine own_ret X4056 (some (.int (1 : Int32))) (fun h => by rw [Bd.returns] at h; cases h) Bd.notSynchronized (by decide) (by decide) ?_ (fun fs hr => retN X4056 hx (t := .boolean) Bd.returns (by simp) (hb hby at_181) hr)
          show Q_rm0 Z i0 i1 i2 i3 i4 i5 h0 n0 _ T4056.heap _
          rw [e4056]
          exact ⟨rfl, N4057⟩
        ·
          refine own_ifNo X4037 hx 128 rfl (hb hby at_125) ((if0 _ _).trans (feq hc4053).1) ?_
          refine own_aload X4037 hx 130 rfl (hb hby at_128) rfl rfl ?_
          refine own_virtual X4037 hx hZ (y := (⟨"com/example/prizepath/prizepath/Insertions", "clear", "()V"⟩ : MethodName)) (z := (⟨"com/example/prizepath/prizepath/Insertions", "clear", "()V"⟩ : MethodName)) hown (own_hw hw 21 rfl) (own_hw hw 22 rfl) (own_hw hw 24 rfl) (own_hw hw 23 rfl) rfl (a := b3886) f4040 (by decide) (rm_clear l Z a0 hw [] b3886 (2 : Int32) T4037.heap n0 z4052 f4040 f4038 ge3887) (own_hw hw 25 rfl) (own_hw hw 2 rfl) (by decide) rfl (by rw [hml]; rfl) [] 0 (by decide) (Nat.le_of_eq rfl) (by decide) (by decide) (lenOf own_pd6 rfl) rfl rfl 133 rfl (hb hby at_130) fun v4058 T4058 Lc4058 X4058 hQ4058 => ?_
          obtain ⟨rfl, Nq4058, Kq4058, f4059⟩ := hQ4058
          have N4060 := Fr.app N4039 Nq4058
          have f4061 := f4040.keep Kq4058
          have z4063 := Nat.le_trans z4052 Kq4058.1
          show own_Go _ _ _ _ _ (State.setTop _ (mkF _ 133 _ []))
          refine own_iconst X4058 hx 134 rfl (hb hby at_133) (0 : Int32) rfl ?_
          refine own_istore X4058 hx 136 rfl (hb hby at_134) #[.val (.int i0), .val (.int i1), .val (.int i2), .val (.int i3), .val (.int i4), .val (.int i5), .val (.int (3 : Int32)), .val (.ref b3886), .val (.int (0 : Int32)), .val (.int (0 : Int32))] rfl ?_
          refine own_aload X4058 hx 138 rfl (hb hby at_136) rfl rfl ?_
          refine own_virtual X4058 hx hZ (y := (⟨"com/example/prizepath/prizepath/Insertions", "isEmpty", "()Z"⟩ : MethodName)) (z := (⟨"com/example/prizepath/prizepath/Insertions", "isEmpty", "()Z"⟩ : MethodName)) hown (own_hw hw 28 rfl) (own_hw hw 29 rfl) (own_hw hw 31 rfl) (own_hw hw 30 rfl) rfl (a := b3886) f4061 (by decide) (rm_empty0 l Z a0 hw [] b3886 T4058.heap n0 z4063 f4059) (own_hw hw 32 rfl) (own_hw hw 2 rfl) (by decide) rfl (by rw [hml]; rfl) [] 0 (by decide) (Nat.le_of_eq rfl) (by decide) (by decide) (lenOf own_pd9 rfl) rfl rfl 141 rfl (hb hby at_138) fun v4064 T4064 Lc4064 X4064 hQ4064 => ?_
          obtain ⟨rfl, Nq4064, e4064⟩ := hQ4064
          have N4065 := Fr.app N4060 Nq4064
          show own_Go _ _ _ _ _ (State.setTop _ (mkF _ 141 _ [(.int (1 : Int32))]))
          refine own_istore X4064 hx 143 rfl (hb hby at_141) #[.val (.int i0), .val (.int i1), .val (.int i2), .val (.int i3), .val (.int i4), .val (.int i5), .val (.int (3 : Int32)), .val (.ref b3886), .val (.int (0 : Int32)), .val (.int (1 : Int32))] rfl ?_
          refine own_iload X4064 hx 145 rfl (hb hby at_143) rfl ?_
          refine own_iload X4064 hx 147 rfl (hb hby at_145) rfl ?_
          refine own_ifNo X4064 hx 150 rfl (hb hby at_147) (by decide) ?_
          refine own_iconst X4064 hx 151 rfl (hb hby at_150) (1 : Int32) rfl ?_
          refine own_goto X4064 hx 155 (hb hby at_151) (by decide) rfl ?_
          refine own_icmpNo X4064 hx 158 rfl (hb hby at_155) (by decide) ?_
          refine own_iload X4064 hx 160 rfl (hb hby at_158) rfl ?_
          refine own_aload X4064 hx 162 rfl (hb hby at_160) rfl rfl ?_
          refine own_virtual X4064 hx hZ (y := (⟨"com/example/prizepath/prizepath/Insertions", "size", "()I"⟩ : MethodName)) (z := (⟨"com/example/prizepath/prizepath/Insertions", "size", "()I"⟩ : MethodName)) hown (own_hw hw 33 rfl) (own_hw hw 34 rfl) (own_hw hw 36 rfl) (own_hw hw 35 rfl) rfl (a := b3886) f4061 (by decide) (rm_size l Z a0 hw [] b3886 (0 : Int32) T4058.heap n0 z4063 f4059) (own_hw hw 37 rfl) (own_hw hw 2 rfl) (by decide) e4064 (by rw [hml]; rfl) [] 1 (by decide) (Nat.le_of_eq rfl) (by decide) (by decide) (lenOf own_pd10 rfl) rfl rfl 165 rfl (hb hby at_162) fun v4066 T4066 Lc4066 X4066 hQ4066 => ?_
          obtain ⟨rfl, Nq4066, e4066⟩ := hQ4066
          have N4067 := Fr.app N4065 Nq4066
          show own_Go _ _ _ _ _ (State.setTop _ (mkF _ 165 _ [(.int (0 : Int32)), (.int (1 : Int32))]))
          refine own_ifNo X4066 hx 168 rfl (hb hby at_165) (by decide) ?_
          refine own_iconst X4066 hx 169 rfl (hb hby at_168) (1 : Int32) rfl ?_
          refine own_goto X4066 hx 173 (hb hby at_169) (by decide) rfl ?_
          refine own_icmpNo X4066 hx 176 rfl (hb hby at_173) (by decide) ?_
          refine own_iconst X4066 hx 177 rfl (hb hby at_176) (1 : Int32) rfl ?_
          refine own_goto X4066 hx 181 (hb hby at_177) (by decide) rfl ?_
          refine own_ret X4066 (some (.int (1 : Int32))) (fun h => by rw [Bd.returns] at h; cases h) Bd.notSynchronized (by decide) (by decide) ?_ (fun fs hr => retN X4066 hx (t := .boolean) Bd.returns (by simp) (hb hby at_181) hr)
          show Q_rm0 Z i0 i1 i2 i3 i4 i5 h0 n0 _ T4066.heap _
          rw [e4066]
          exact ⟨rfl, N4067⟩
      ·
        show own_Go _ _ _ _ _ (State.setTop _ (mkF _ 105 #[.val (.int i0), .val (.int i1), .val (.int i2), .val (.int i3), .val (.int i4), .val (.int i5), .val (.int (3 : Int32)), .val (.ref b3886), .val (.int (3 : Int32)), .unset] [(.int (1 : Int32))]))
        refine own_istore X3986 hx 107 rfl (hb hby at_105) #[.val (.int i0), .val (.int i1), .val (.int i2), .val (.int i3), .val (.int i4), .val (.int i5), .val (.int (3 : Int32)), .val (.ref b3886), .val (.int (3 : Int32)), .val (.int (1 : Int32))] rfl ?_
        refine own_aload X3986 hx 109 rfl (hb hby at_107) rfl rfl ?_
        refine own_iload X3986 hx 111 rfl (hb hby at_109) rfl ?_
        refine own_virtual X3986 hx hZ (y := (⟨"com/example/prizepath/prizepath/Insertions", "take", "(I)Lcom/example/prizepath/prizepath/Insertions$Insertion;"⟩ : MethodName)) (z := (⟨"com/example/prizepath/prizepath/Insertions", "take", "(I)Lcom/example/prizepath/prizepath/Insertions$Insertion;"⟩ : MethodName)) hown (own_hw hw 44 rfl) (own_hw hw 45 rfl) (own_hw hw 47 rfl) (own_hw hw 46 rfl) rfl (a := b3886) f3998 (by decide) (rm_take31 l Z a0 hw [] b3886 a1_3895 a2_3895 a3_3895 a4_3895 a5_3895 k1_3895 k2_3895 k3_3895 k4_3895 k5_3895 i1 i2 i3 i2 i3 i1 i3 i1 i2 (FP.i2d (i4 &&& (7 : Int32))) (FP.i2d ((i4 >>> ((3 : Int32) &&& 31)) &&& (7 : Int32))) (FP.i2d ((i4 >>> ((6 : Int32) &&& 31)) &&& (7 : Int32))) T3986.heap n0 z4010 f3998 f3991 f3992 f3993 f3994 f3995 f3987 f3988 f3989 f3990 f3999 f3996 ge3887 ge3907 ge3908 ge3909 ge3910 ge3911 ne3912 ne3913 ne3914 ne3915 ne3916 ne3917 ne3918 ne3919 ne3920 ne3921 ne3922 ne3923 ne3924 ne3925 ne3926 (dcmpV_self (own_is.i2d _).nn .l) (dcmpV_self (own_is.i2d _).nn .l) (dcmpV_self (own_is.i2d _).nn .l)) (own_hw hw 48 rfl) (own_hw hw 2 rfl) (by decide) rfl (by rw [hml]; rfl) [(.int (1 : Int32))] 0 (by decide) (Nat.le_of_eq rfl) (by decide) (by decide) (lenOf own_pd12 rfl) rfl rfl 114 rfl (hb hby at_111) fun v4068 T4068 Lc4068 X4068 hQ4068 => ?_
        obtain ⟨r4068, rfl, Nq4068, Kq4068, f4069⟩ := hQ4068
        have N4070 := Fr.app N3997 Nq4068
        have f4071 := f3998.keep Kq4068
        have z4083 := Nat.le_trans z4010 Kq4068.1
        show own_Go _ _ _ _ _ (State.setTop _ (mkF _ 114 _ [(.ref r4068)]))
        refine own_pop X4068 hx 115 rfl (hb hby at_114) rfl ?_
        refine own_iload X4068 hx 117 rfl (hb hby at_115) rfl ?_
        refine own_iconst X4068 hx 118 rfl (hb hby at_117) (1 : Int32) rfl ?_
        refine own_isub X4068 hx 119 rfl (hb hby at_118) (2 : Int32) rfl ?_
        refine own_istore X4068 hx 121 rfl (hb hby at_119) #[.val (.int i0), .val (.int i1), .val (.int i2), .val (.int i3), .val (.int i4), .val (.int i5), .val (.int (3 : Int32)), .val (.ref b3886), .val (.int (2 : Int32)), .val (.int (1 : Int32))] rfl ?_
        refine own_iload X4068 hx 123 rfl (hb hby at_121) rfl ?_
        refine own_iconst X4068 hx 124 rfl (hb hby at_123) (2 : Int32) rfl ?_
        refine own_iand X4068 hx 125 rfl (hb hby at_124) _ rfl ?_
        by_cases hc4084 : (i5 &&& (2 : Int32)) = (0 : Int32)
        ·
          refine own_ifYes X4068 hx 136 (hb hby at_125) ((if0 _ _).trans (teq hc4084).1) (by decide) rfl ?_
          refine own_aload X4068 hx 138 rfl (hb hby at_136) rfl rfl ?_
          refine own_virtual X4068 hx hZ (y := (⟨"com/example/prizepath/prizepath/Insertions", "isEmpty", "()Z"⟩ : MethodName)) (z := (⟨"com/example/prizepath/prizepath/Insertions", "isEmpty", "()Z"⟩ : MethodName)) hown (own_hw hw 28 rfl) (own_hw hw 29 rfl) (own_hw hw 31 rfl) (own_hw hw 30 rfl) rfl (a := b3886) f4071 (by decide) (rm_empty2 l Z a0 hw [] b3886 T4068.heap n0 z4083 f4069) (own_hw hw 32 rfl) (own_hw hw 2 rfl) (by decide) rfl (by rw [hml]; rfl) [] 0 (by decide) (Nat.le_of_eq rfl) (by decide) (by decide) (lenOf own_pd9 rfl) rfl rfl 141 rfl (hb hby at_138) fun v4085 T4085 Lc4085 X4085 hQ4085 => ?_
          obtain ⟨rfl, Nq4085, e4085⟩ := hQ4085
          have N4086 := Fr.app N4070 Nq4085
          show own_Go _ _ _ _ _ (State.setTop _ (mkF _ 141 _ [(.int (0 : Int32))]))
          refine own_istore X4085 hx 143 rfl (hb hby at_141) #[.val (.int i0), .val (.int i1), .val (.int i2), .val (.int i3), .val (.int i4), .val (.int i5), .val (.int (3 : Int32)), .val (.ref b3886), .val (.int (2 : Int32)), .val (.int (0 : Int32))] rfl ?_
          refine own_iload X4085 hx 145 rfl (hb hby at_143) rfl ?_
          refine own_iload X4085 hx 147 rfl (hb hby at_145) rfl ?_
          refine own_ifYes X4085 hx 154 (hb hby at_147) (by decide) (by decide) rfl ?_
          refine own_iconst X4085 hx 155 rfl (hb hby at_154) (0 : Int32) rfl ?_
          refine own_icmpNo X4085 hx 158 rfl (hb hby at_155) (by decide) ?_
          refine own_iload X4085 hx 160 rfl (hb hby at_158) rfl ?_
          refine own_aload X4085 hx 162 rfl (hb hby at_160) rfl rfl ?_
          refine own_virtual X4085 hx hZ (y := (⟨"com/example/prizepath/prizepath/Insertions", "size", "()I"⟩ : MethodName)) (z := (⟨"com/example/prizepath/prizepath/Insertions", "size", "()I"⟩ : MethodName)) hown (own_hw hw 33 rfl) (own_hw hw 34 rfl) (own_hw hw 36 rfl) (own_hw hw 35 rfl) rfl (a := b3886) f4071 (by decide) (rm_size l Z a0 hw [] b3886 (2 : Int32) T4068.heap n0 z4083 f4069) (own_hw hw 37 rfl) (own_hw hw 2 rfl) (by decide) e4085 (by rw [hml]; rfl) [] 1 (by decide) (Nat.le_of_eq rfl) (by decide) (by decide) (lenOf own_pd10 rfl) rfl rfl 165 rfl (hb hby at_162) fun v4087 T4087 Lc4087 X4087 hQ4087 => ?_
          obtain ⟨rfl, Nq4087, e4087⟩ := hQ4087
          have N4088 := Fr.app N4086 Nq4087
          show own_Go _ _ _ _ _ (State.setTop _ (mkF _ 165 _ [(.int (2 : Int32)), (.int (0 : Int32))]))
          refine own_ifYes X4087 hx 172 (hb hby at_165) (by decide) (by decide) rfl ?_
          refine own_iconst X4087 hx 173 rfl (hb hby at_172) (0 : Int32) rfl ?_
          refine own_icmpNo X4087 hx 176 rfl (hb hby at_173) (by decide) ?_
          refine own_iconst X4087 hx 177 rfl (hb hby at_176) (1 : Int32) rfl ?_
          refine own_goto X4087 hx 181 (hb hby at_177) (by decide) rfl ?_
          refine own_ret X4087 (some (.int (1 : Int32))) (fun h => by rw [Bd.returns] at h; cases h) Bd.notSynchronized (by decide) (by decide) ?_ (fun fs hr => retN X4087 hx (t := .boolean) Bd.returns (by simp) (hb hby at_181) hr)
          show Q_rm0 Z i0 i1 i2 i3 i4 i5 h0 n0 _ T4087.heap _
          rw [e4087]
          exact ⟨rfl, N4088⟩
        ·
          refine own_ifNo X4068 hx 128 rfl (hb hby at_125) ((if0 _ _).trans (feq hc4084).1) ?_
          refine own_aload X4068 hx 130 rfl (hb hby at_128) rfl rfl ?_
          refine own_virtual X4068 hx hZ (y := (⟨"com/example/prizepath/prizepath/Insertions", "clear", "()V"⟩ : MethodName)) (z := (⟨"com/example/prizepath/prizepath/Insertions", "clear", "()V"⟩ : MethodName)) hown (own_hw hw 21 rfl) (own_hw hw 22 rfl) (own_hw hw 24 rfl) (own_hw hw 23 rfl) rfl (a := b3886) f4071 (by decide) (rm_clear l Z a0 hw [] b3886 (2 : Int32) T4068.heap n0 z4083 f4071 f4069 ge3887) (own_hw hw 25 rfl) (own_hw hw 2 rfl) (by decide) rfl (by rw [hml]; rfl) [] 0 (by decide) (Nat.le_of_eq rfl) (by decide) (by decide) (lenOf own_pd6 rfl) rfl rfl 133 rfl (hb hby at_130) fun v4089 T4089 Lc4089 X4089 hQ4089 => ?_
          obtain ⟨rfl, Nq4089, Kq4089, f4090⟩ := hQ4089
          have N4091 := Fr.app N4070 Nq4089
          have f4092 := f4071.keep Kq4089
          have z4094 := Nat.le_trans z4083 Kq4089.1
          show own_Go _ _ _ _ _ (State.setTop _ (mkF _ 133 _ []))
          refine own_iconst X4089 hx 134 rfl (hb hby at_133) (0 : Int32) rfl ?_
          refine own_istore X4089 hx 136 rfl (hb hby at_134) #[.val (.int i0), .val (.int i1), .val (.int i2), .val (.int i3), .val (.int i4), .val (.int i5), .val (.int (3 : Int32)), .val (.ref b3886), .val (.int (0 : Int32)), .val (.int (1 : Int32))] rfl ?_
          refine own_aload X4089 hx 138 rfl (hb hby at_136) rfl rfl ?_
          refine own_virtual X4089 hx hZ (y := (⟨"com/example/prizepath/prizepath/Insertions", "isEmpty", "()Z"⟩ : MethodName)) (z := (⟨"com/example/prizepath/prizepath/Insertions", "isEmpty", "()Z"⟩ : MethodName)) hown (own_hw hw 28 rfl) (own_hw hw 29 rfl) (own_hw hw 31 rfl) (own_hw hw 30 rfl) rfl (a := b3886) f4092 (by decide) (rm_empty0 l Z a0 hw [] b3886 T4089.heap n0 z4094 f4090) (own_hw hw 32 rfl) (own_hw hw 2 rfl) (by decide) rfl (by rw [hml]; rfl) [] 0 (by decide) (Nat.le_of_eq rfl) (by decide) (by decide) (lenOf own_pd9 rfl) rfl rfl 141 rfl (hb hby at_138) fun v4095 T4095 Lc4095 X4095 hQ4095 => ?_
          obtain ⟨rfl, Nq4095, e4095⟩ := hQ4095
          have N4096 := Fr.app N4091 Nq4095
          show own_Go _ _ _ _ _ (State.setTop _ (mkF _ 141 _ [(.int (1 : Int32))]))
          refine own_istore X4095 hx 143 rfl (hb hby at_141) #[.val (.int i0), .val (.int i1), .val (.int i2), .val (.int i3), .val (.int i4), .val (.int i5), .val (.int (3 : Int32)), .val (.ref b3886), .val (.int (0 : Int32)), .val (.int (1 : Int32))] rfl ?_
          refine own_iload X4095 hx 145 rfl (hb hby at_143) rfl ?_
          refine own_iload X4095 hx 147 rfl (hb hby at_145) rfl ?_
          refine own_ifNo X4095 hx 150 rfl (hb hby at_147) (by decide) ?_
          refine own_iconst X4095 hx 151 rfl (hb hby at_150) (1 : Int32) rfl ?_
          refine own_goto X4095 hx 155 (hb hby at_151) (by decide) rfl ?_
          refine own_icmpNo X4095 hx 158 rfl (hb hby at_155) (by decide) ?_
          refine own_iload X4095 hx 160 rfl (hb hby at_158) rfl ?_
          refine own_aload X4095 hx 162 rfl (hb hby at_160) rfl rfl ?_
          refine own_virtual X4095 hx hZ (y := (⟨"com/example/prizepath/prizepath/Insertions", "size", "()I"⟩ : MethodName)) (z := (⟨"com/example/prizepath/prizepath/Insertions", "size", "()I"⟩ : MethodName)) hown (own_hw hw 33 rfl) (own_hw hw 34 rfl) (own_hw hw 36 rfl) (own_hw hw 35 rfl) rfl (a := b3886) f4092 (by decide) (rm_size l Z a0 hw [] b3886 (0 : Int32) T4089.heap n0 z4094 f4090) (own_hw hw 37 rfl) (own_hw hw 2 rfl) (by decide) e4095 (by rw [hml]; rfl) [] 1 (by decide) (Nat.le_of_eq rfl) (by decide) (by decide) (lenOf own_pd10 rfl) rfl rfl 165 rfl (hb hby at_162) fun v4097 T4097 Lc4097 X4097 hQ4097 => ?_
          obtain ⟨rfl, Nq4097, e4097⟩ := hQ4097
          have N4098 := Fr.app N4096 Nq4097
          show own_Go _ _ _ _ _ (State.setTop _ (mkF _ 165 _ [(.int (0 : Int32)), (.int (1 : Int32))]))
          refine own_ifNo X4097 hx 168 rfl (hb hby at_165) (by decide) ?_
          refine own_iconst X4097 hx 169 rfl (hb hby at_168) (1 : Int32) rfl ?_
          refine own_goto X4097 hx 173 (hb hby at_169) (by decide) rfl ?_
          refine own_icmpNo X4097 hx 176 rfl (hb hby at_173) (by decide) ?_
          refine own_iconst X4097 hx 177 rfl (hb hby at_176) (1 : Int32) rfl ?_
          refine own_goto X4097 hx 181 (hb hby at_177) (by decide) rfl ?_
          refine own_ret X4097 (some (.int (1 : Int32))) (fun h => by rw [Bd.returns] at h; cases h) Bd.notSynchronized (by decide) (by decide) ?_ (fun fs hr => retN X4097 hx (t := .boolean) Bd.returns (by simp) (hb hby at_181) hr)
          show Q_rm0 Z i0 i1 i2 i3 i4 i5 h0 n0 _ T4097.heap _
          rw [e4097]
          exact ⟨rfl, N4098⟩
      ·
        show own_Go _ _ _ _ _ (State.setTop _ (mkF _ 105 #[.val (.int i0), .val (.int i1), .val (.int i2), .val (.int i3), .val (.int i4), .val (.int i5), .val (.int (3 : Int32)), .val (.ref b3886), .val (.int (3 : Int32)), .unset] [(.int (2 : Int32))]))
        refine own_istore X3986 hx 107 rfl (hb hby at_105) #[.val (.int i0), .val (.int i1), .val (.int i2), .val (.int i3), .val (.int i4), .val (.int i5), .val (.int (3 : Int32)), .val (.ref b3886), .val (.int (3 : Int32)), .val (.int (2 : Int32))] rfl ?_
        refine own_aload X3986 hx 109 rfl (hb hby at_107) rfl rfl ?_
        refine own_iload X3986 hx 111 rfl (hb hby at_109) rfl ?_
        refine own_virtual X3986 hx hZ (y := (⟨"com/example/prizepath/prizepath/Insertions", "take", "(I)Lcom/example/prizepath/prizepath/Insertions$Insertion;"⟩ : MethodName)) (z := (⟨"com/example/prizepath/prizepath/Insertions", "take", "(I)Lcom/example/prizepath/prizepath/Insertions$Insertion;"⟩ : MethodName)) hown (own_hw hw 44 rfl) (own_hw hw 45 rfl) (own_hw hw 47 rfl) (own_hw hw 46 rfl) rfl (a := b3886) f3998 (by decide) (rm_take32 l Z a0 hw [] b3886 a1_3895 a2_3895 a3_3895 a4_3895 a5_3895 k1_3895 k2_3895 k3_3895 k4_3895 k5_3895 i1 i2 i3 i2 i3 i1 i3 i1 i2 (FP.i2d (i4 &&& (7 : Int32))) (FP.i2d ((i4 >>> ((3 : Int32) &&& 31)) &&& (7 : Int32))) (FP.i2d ((i4 >>> ((6 : Int32) &&& 31)) &&& (7 : Int32))) T3986.heap n0 z4010 f3998 f3991 f3992 f3993 f3994 f3995 f3987 f3988 f3989 f3990 f3999 f3996 ge3887 ge3907 ge3908 ge3909 ge3910 ge3911 ne3912 ne3913 ne3914 ne3915 ne3916 ne3917 ne3918 ne3919 ne3920 ne3921 ne3922 ne3923 ne3924 ne3925 ne3926 (dcmpV_self (own_is.i2d _).nn .l) (dcmpV_self (own_is.i2d _).nn .l) (dcmpV_self (own_is.i2d _).nn .l)) (own_hw hw 48 rfl) (own_hw hw 2 rfl) (by decide) rfl (by rw [hml]; rfl) [(.int (2 : Int32))] 0 (by decide) (Nat.le_of_eq rfl) (by decide) (by decide) (lenOf own_pd12 rfl) rfl rfl 114 rfl (hb hby at_111) fun v4099 T4099 Lc4099 X4099 hQ4099 => ?_
        obtain ⟨r4099, rfl, Nq4099, Kq4099, f4100⟩ := hQ4099
        have N4101 := Fr.app N3997 Nq4099
        have f4102 := f3998.keep Kq4099
        have z4114 := Nat.le_trans z4010 Kq4099.1
        show own_Go _ _ _ _ _ (State.setTop _ (mkF _ 114 _ [(.ref r4099)]))
        refine own_pop X4099 hx 115 rfl (hb hby at_114) rfl ?_
        refine own_iload X4099 hx 117 rfl (hb hby at_115) rfl ?_
        refine own_iconst X4099 hx 118 rfl (hb hby at_117) (1 : Int32) rfl ?_
        refine own_isub X4099 hx 119 rfl (hb hby at_118) (2 : Int32) rfl ?_
        refine own_istore X4099 hx 121 rfl (hb hby at_119) #[.val (.int i0), .val (.int i1), .val (.int i2), .val (.int i3), .val (.int i4), .val (.int i5), .val (.int (3 : Int32)), .val (.ref b3886), .val (.int (2 : Int32)), .val (.int (2 : Int32))] rfl ?_
        refine own_iload X4099 hx 123 rfl (hb hby at_121) rfl ?_
        refine own_iconst X4099 hx 124 rfl (hb hby at_123) (2 : Int32) rfl ?_
        refine own_iand X4099 hx 125 rfl (hb hby at_124) _ rfl ?_
        by_cases hc4115 : (i5 &&& (2 : Int32)) = (0 : Int32)
        ·
          refine own_ifYes X4099 hx 136 (hb hby at_125) ((if0 _ _).trans (teq hc4115).1) (by decide) rfl ?_
          refine own_aload X4099 hx 138 rfl (hb hby at_136) rfl rfl ?_
          refine own_virtual X4099 hx hZ (y := (⟨"com/example/prizepath/prizepath/Insertions", "isEmpty", "()Z"⟩ : MethodName)) (z := (⟨"com/example/prizepath/prizepath/Insertions", "isEmpty", "()Z"⟩ : MethodName)) hown (own_hw hw 28 rfl) (own_hw hw 29 rfl) (own_hw hw 31 rfl) (own_hw hw 30 rfl) rfl (a := b3886) f4102 (by decide) (rm_empty2 l Z a0 hw [] b3886 T4099.heap n0 z4114 f4100) (own_hw hw 32 rfl) (own_hw hw 2 rfl) (by decide) rfl (by rw [hml]; rfl) [] 0 (by decide) (Nat.le_of_eq rfl) (by decide) (by decide) (lenOf own_pd9 rfl) rfl rfl 141 rfl (hb hby at_138) fun v4116 T4116 Lc4116 X4116 hQ4116 => ?_
          obtain ⟨rfl, Nq4116, e4116⟩ := hQ4116
          have N4117 := Fr.app N4101 Nq4116
          show own_Go _ _ _ _ _ (State.setTop _ (mkF _ 141 _ [(.int (0 : Int32))]))
          refine own_istore X4116 hx 143 rfl (hb hby at_141) #[.val (.int i0), .val (.int i1), .val (.int i2), .val (.int i3), .val (.int i4), .val (.int i5), .val (.int (3 : Int32)), .val (.ref b3886), .val (.int (2 : Int32)), .val (.int (0 : Int32))] rfl ?_
          refine own_iload X4116 hx 145 rfl (hb hby at_143) rfl ?_
          refine own_iload X4116 hx 147 rfl (hb hby at_145) rfl ?_
          refine own_ifYes X4116 hx 154 (hb hby at_147) (by decide) (by decide) rfl ?_
          refine own_iconst X4116 hx 155 rfl (hb hby at_154) (0 : Int32) rfl ?_
          refine own_icmpNo X4116 hx 158 rfl (hb hby at_155) (by decide) ?_
          refine own_iload X4116 hx 160 rfl (hb hby at_158) rfl ?_
          refine own_aload X4116 hx 162 rfl (hb hby at_160) rfl rfl ?_
          refine own_virtual X4116 hx hZ (y := (⟨"com/example/prizepath/prizepath/Insertions", "size", "()I"⟩ : MethodName)) (z := (⟨"com/example/prizepath/prizepath/Insertions", "size", "()I"⟩ : MethodName)) hown (own_hw hw 33 rfl) (own_hw hw 34 rfl) (own_hw hw 36 rfl) (own_hw hw 35 rfl) rfl (a := b3886) f4102 (by decide) (rm_size l Z a0 hw [] b3886 (2 : Int32) T4099.heap n0 z4114 f4100) (own_hw hw 37 rfl) (own_hw hw 2 rfl) (by decide) e4116 (by rw [hml]; rfl) [] 1 (by decide) (Nat.le_of_eq rfl) (by decide) (by decide) (lenOf own_pd10 rfl) rfl rfl 165 rfl (hb hby at_162) fun v4118 T4118 Lc4118 X4118 hQ4118 => ?_
          obtain ⟨rfl, Nq4118, e4118⟩ := hQ4118
          have N4119 := Fr.app N4117 Nq4118
          show own_Go _ _ _ _ _ (State.setTop _ (mkF _ 165 _ [(.int (2 : Int32)), (.int (0 : Int32))]))
          refine own_ifYes X4118 hx 172 (hb hby at_165) (by decide) (by decide) rfl ?_
          refine own_iconst X4118 hx 173 rfl (hb hby at_172) (0 : Int32) rfl ?_
          refine own_icmpNo X4118 hx 176 rfl (hb hby at_173) (by decide) ?_
          refine own_iconst X4118 hx 177 rfl (hb hby at_176) (1 : Int32) rfl ?_
          refine own_goto X4118 hx 181 (hb hby at_177) (by decide) rfl ?_
          refine own_ret X4118 (some (.int (1 : Int32))) (fun h => by rw [Bd.returns] at h; cases h) Bd.notSynchronized (by decide) (by decide) ?_ (fun fs hr => retN X4118 hx (t := .boolean) Bd.returns (by simp) (hb hby at_181) hr)
          show Q_rm0 Z i0 i1 i2 i3 i4 i5 h0 n0 _ T4118.heap _
          rw [e4118]
          exact ⟨rfl, N4119⟩
        ·
          refine own_ifNo X4099 hx 128 rfl (hb hby at_125) ((if0 _ _).trans (feq hc4115).1) ?_
          refine own_aload X4099 hx 130 rfl (hb hby at_128) rfl rfl ?_
          refine own_virtual X4099 hx hZ (y := (⟨"com/example/prizepath/prizepath/Insertions", "clear", "()V"⟩ : MethodName)) (z := (⟨"com/example/prizepath/prizepath/Insertions", "clear", "()V"⟩ : MethodName)) hown (own_hw hw 21 rfl) (own_hw hw 22 rfl) (own_hw hw 24 rfl) (own_hw hw 23 rfl) rfl (a := b3886) f4102 (by decide) (rm_clear l Z a0 hw [] b3886 (2 : Int32) T4099.heap n0 z4114 f4102 f4100 ge3887) (own_hw hw 25 rfl) (own_hw hw 2 rfl) (by decide) rfl (by rw [hml]; rfl) [] 0 (by decide) (Nat.le_of_eq rfl) (by decide) (by decide) (lenOf own_pd6 rfl) rfl rfl 133 rfl (hb hby at_130) fun v4120 T4120 Lc4120 X4120 hQ4120 => ?_
          obtain ⟨rfl, Nq4120, Kq4120, f4121⟩ := hQ4120
          have N4122 := Fr.app N4101 Nq4120
          have f4123 := f4102.keep Kq4120
          have z4125 := Nat.le_trans z4114 Kq4120.1
          show own_Go _ _ _ _ _ (State.setTop _ (mkF _ 133 _ []))
          refine own_iconst X4120 hx 134 rfl (hb hby at_133) (0 : Int32) rfl ?_
          refine own_istore X4120 hx 136 rfl (hb hby at_134) #[.val (.int i0), .val (.int i1), .val (.int i2), .val (.int i3), .val (.int i4), .val (.int i5), .val (.int (3 : Int32)), .val (.ref b3886), .val (.int (0 : Int32)), .val (.int (2 : Int32))] rfl ?_
          refine own_aload X4120 hx 138 rfl (hb hby at_136) rfl rfl ?_
          refine own_virtual X4120 hx hZ (y := (⟨"com/example/prizepath/prizepath/Insertions", "isEmpty", "()Z"⟩ : MethodName)) (z := (⟨"com/example/prizepath/prizepath/Insertions", "isEmpty", "()Z"⟩ : MethodName)) hown (own_hw hw 28 rfl) (own_hw hw 29 rfl) (own_hw hw 31 rfl) (own_hw hw 30 rfl) rfl (a := b3886) f4123 (by decide) (rm_empty0 l Z a0 hw [] b3886 T4120.heap n0 z4125 f4121) (own_hw hw 32 rfl) (own_hw hw 2 rfl) (by decide) rfl (by rw [hml]; rfl) [] 0 (by decide) (Nat.le_of_eq rfl) (by decide) (by decide) (lenOf own_pd9 rfl) rfl rfl 141 rfl (hb hby at_138) fun v4126 T4126 Lc4126 X4126 hQ4126 => ?_
          obtain ⟨rfl, Nq4126, e4126⟩ := hQ4126
          have N4127 := Fr.app N4122 Nq4126
          show own_Go _ _ _ _ _ (State.setTop _ (mkF _ 141 _ [(.int (1 : Int32))]))
          refine own_istore X4126 hx 143 rfl (hb hby at_141) #[.val (.int i0), .val (.int i1), .val (.int i2), .val (.int i3), .val (.int i4), .val (.int i5), .val (.int (3 : Int32)), .val (.ref b3886), .val (.int (0 : Int32)), .val (.int (1 : Int32))] rfl ?_
          refine own_iload X4126 hx 145 rfl (hb hby at_143) rfl ?_
          refine own_iload X4126 hx 147 rfl (hb hby at_145) rfl ?_
          refine own_ifNo X4126 hx 150 rfl (hb hby at_147) (by decide) ?_
          refine own_iconst X4126 hx 151 rfl (hb hby at_150) (1 : Int32) rfl ?_
          refine own_goto X4126 hx 155 (hb hby at_151) (by decide) rfl ?_
          refine own_icmpNo X4126 hx 158 rfl (hb hby at_155) (by decide) ?_
          refine own_iload X4126 hx 160 rfl (hb hby at_158) rfl ?_
          refine own_aload X4126 hx 162 rfl (hb hby at_160) rfl rfl ?_
          refine own_virtual X4126 hx hZ (y := (⟨"com/example/prizepath/prizepath/Insertions", "size", "()I"⟩ : MethodName)) (z := (⟨"com/example/prizepath/prizepath/Insertions", "size", "()I"⟩ : MethodName)) hown (own_hw hw 33 rfl) (own_hw hw 34 rfl) (own_hw hw 36 rfl) (own_hw hw 35 rfl) rfl (a := b3886) f4123 (by decide) (rm_size l Z a0 hw [] b3886 (0 : Int32) T4120.heap n0 z4125 f4121) (own_hw hw 37 rfl) (own_hw hw 2 rfl) (by decide) e4126 (by rw [hml]; rfl) [] 1 (by decide) (Nat.le_of_eq rfl) (by decide) (by decide) (lenOf own_pd10 rfl) rfl rfl 165 rfl (hb hby at_162) fun v4128 T4128 Lc4128 X4128 hQ4128 => ?_
          obtain ⟨rfl, Nq4128, e4128⟩ := hQ4128
          have N4129 := Fr.app N4127 Nq4128
          show own_Go _ _ _ _ _ (State.setTop _ (mkF _ 165 _ [(.int (0 : Int32)), (.int (1 : Int32))]))
          refine own_ifNo X4128 hx 168 rfl (hb hby at_165) (by decide) ?_
          refine own_iconst X4128 hx 169 rfl (hb hby at_168) (1 : Int32) rfl ?_
          refine own_goto X4128 hx 173 (hb hby at_169) (by decide) rfl ?_
          refine own_icmpNo X4128 hx 176 rfl (hb hby at_173) (by decide) ?_
          refine own_iconst X4128 hx 177 rfl (hb hby at_176) (1 : Int32) rfl ?_
          refine own_goto X4128 hx 181 (hb hby at_177) (by decide) rfl ?_
          refine own_ret X4128 (some (.int (1 : Int32))) (fun h => by rw [Bd.returns] at h; cases h) Bd.notSynchronized (by decide) (by decide) ?_ (fun fs hr => retN X4128 hx (t := .boolean) Bd.returns (by simp) (hb hby at_181) hr)
          show Q_rm0 Z i0 i1 i2 i3 i4 i5 h0 n0 _ T4128.heap _
          rw [e4128]
          exact ⟨rfl, N4129⟩
set_option maxRecDepth 65536 in
set_option maxHeartbeats 40000000 in
theorem comes_1 {Post : Tables → Env → Array Value → State → Outcome → State → Prop} (hpost : ∀ tb e args s v u, (limb_1_1.after args s (.returned v) u = true ∧ limb_1_2.after args s (.returned v) u = true ∧ True) → FrameEnd s (.returned v) u (Jvm.fieldLocs frame_1_writes args s ++ Jvm.arrayLocs frame_1_arrays args s ++ Jvm.staticLocs frame_1_statics s) 24 2176 → Post tb e args s (.returned v) u) :
    ArmFor flags0 classFile x code maxLocals ret World_1 tables_1 room_1 Calls_1 rest_1 Pre_1 Post := by
  intro l hfl _ _ p e ha hc hk s m args below hf hA hF happ hP
  obtain ⟨hcalls, hrest, hpre⟩ := hP
  obtain ⟨-, -, -, hnamed, -, -, -, hat⟩ := (Spec.applies_iff hf).mp happ
  obtain ⟨hg, hn⟩ := and_e (Cond.before_iff.mp (show (Jvm.Cond.and given_1 narrow_1).before args s = true from hpre))
  obtain ⟨hcount, hg1⟩ := and_e hg
  obtain ⟨ha0, hgr0⟩ := and_e hg1
  obtain ⟨ha1, hgr1⟩ := and_e hgr0
  obtain ⟨ha2, hgr2⟩ := and_e hgr1
  obtain ⟨ha3, hgr3⟩ := and_e hgr2
  obtain ⟨ha4, hgr4⟩ := and_e hgr3
  obtain ⟨w0, w1, w2, w3, w4, w5, rfl⟩ : ∃ w0 w1 w2 w3 w4 w5 : Value, args = #[w0, w1, w2, w3, w4, w5] := by
    have hs : args.size = 6 := by simpa [Cond.value, given_1] using hcount
    obtain ⟨L⟩ := args
    match L, hs with
    | [w0, w1, w2, w3, w4, w5], _ => exact ⟨w0, w1, w2, w3, w4, w5, rfl⟩
  have hw := fun d (hd : d ∈ tables_1) => atoms_spec (ws := Jvm.Cond.code x code maxLocals ret :: tables_1) hat d (List.mem_cons_of_mem _ hd)
  have hfit : Fit s := fun {y c} hc i hi => by
    obtain ⟨ha, rfl⟩ := Array.getElem?_eq_some_iff.mp hc
    have q := List.all_eq_true.mp ((Array.all_eq_true_iff_forall_mem.mp hF) _ (Array.getElem_mem ha)) i (List.mem_range.mpr hi)
    simpa [Array.getElem?_eq_getElem hi] using q
  obtain ⟨i0, ei0⟩ := is_v ha0
  obtain rfl : w0 = (.int i0) := Option.some.inj ei0
  obtain ⟨i1, ei1⟩ := is_v ha1
  obtain rfl : w1 = (.int i1) := Option.some.inj ei1
  obtain ⟨i2, ei2⟩ := is_v ha2
  obtain rfl : w2 = (.int i2) := Option.some.inj ei2
  obtain ⟨i3, ei3⟩ := is_v ha3
  obtain rfl : w3 = (.int i3) := Option.some.inj ei3
  obtain ⟨i4, ei4⟩ := is_v ha4
  obtain rfl : w4 = (.int i4) := Option.some.inj ei4
  obtain ⟨i5, ei5⟩ := is_v hgr4
  obtain rfl : w5 = (.int i5) := Option.some.inj ei5
  obtain ⟨n, o, h1, h2, h3, _, L, rfl, ⟨rfl, N⟩, hq⟩ := rm0 l s _ hw tables_1 i0 i1 i2 i3 i4 i5 s.heap s.heap.size (Nat.le_refl _)  p e ha hc hk s m _ below hf ((Spec.applies_iff_loose hf).mp happ).1 ⟨rfl, State.Warmed39.refl s, rfl⟩ trivial
  refine ⟨n, _, h1, h2, h3, hpost _ _ _ _ _ _ ⟨Cond.after_iff.mpr rfl, Cond.after_iff.mpr (eq_i res_at (Term.int_eval (1)) rfl), trivial⟩ ⟨hq.1, hq.2.1, (hq.2.2.sift fun y hy => Or.inr (N y hy)).mono (by decide) (by decide)⟩⟩
theorem main_1_1 : Claimed_1_1 := comes_1 fun _ _ _ _ _ _ h hF => ⟨h.1, hF⟩
theorem main_1_2 : Claimed_1_2 := comes_1 fun _ _ _ _ _ _ h hF => ⟨h.2.1, hF⟩
end Jvm.Pilot.@@N@@
namespace Jvm.Pilot.@@N@@
open Jvm Jvm.ClassFile Sem Op Lib Jvm.Free Jvm.Stand Jvm.Pilot.@@N@@.Jvm.D
/-! MADE BY PROGRAM (witnessworld.py) out of the Statement's table words and the real class files: 19 classes; the members and pool entries that the words name. The judged class is class 1, her method 1. -/
namespace start1
open Jvm.ClassFile
def u (s : String) : CpInfo := .utf8 (stringToUtf16 s)
/-- a pool by its gaps: so many unusable entries, then the entry; so many at the end -/
def gap : Nat → List CpInfo → List CpInfo
  | 0, r => r
  | n + 1, r => .unusable :: gap n r
def poolList (es : List (Nat × CpInfo)) (last : Nat) : List CpInfo := es.foldr (fun e r => gap e.1 (e.2 :: r)) (gap last [])
def pool (es : List (Nat × CpInfo)) (last : Nat) : Array CpInfo := ⟨poolList es last⟩
def fileOf (pool : Array CpInfo) (this : Nat) (attrs : Array Attribute := #[]) (ms : Array MethodInfo := #[]) (fl : Nat := 33) (sup : Nat := 0) (ifs : Array Nat := #[]) (fds : Array FieldInfo := #[]) : ClassFile where
  minorVersion := 0
  majorVersion := 65
  constantPool := pool
  accessFlags := fl
  thisClass := this
  superClass := sup
  interfaces := ifs
  fields := fds
  methods := ms
  attributes := attrs
def plain (name : String) (sup : Option ClassId) : Class where
  name := name
  kind := .ordinary
  loader := none
  accessFlags := 33
  super := sup
  interfaces := #[]
  cf := none
  fields := #[]
  methods := #[]
  instanceTypes := #[]
  staticTypes := #[]
  resolved := #[]
  callSites := []
  init := .initialized
  statics := none
  mirror := none

def pool0 : Array CpInfo := pool [(5, u "<init>"), (0, u "()V"), (1, .class_ 10), (1, u "java/lang/Object")] 113

def k0c0 : Code := { maxStack := 0, maxLocals := 1, code := object_method_1_code, exceptionTable := #[], attributes := #[] }
def k0m0 : Method := { name := "<init>", desc := "()V", sig := { parameters := [], returnType := none }, accessFlags := 1, code := some k0c0 }
/-- java/lang/Object -/
def k0 : Class := { plain "java/lang/Object" none with
  accessFlags := 33
  interfaces := #[]
  cf := some (fileOf pool0 8 #[] #[{ accessFlags := 1, nameIndex := 5, descriptorIndex := 6, attributes := #[] }] 33 0 #[] #[])
  fields := #[]
  methods := #[k0m0]
  instanceTypes := #[]
  staticTypes := #[]
  resolved := Array.replicate 124 none
  statics := none }

def pool1 : Array CpInfo := pool [(2, .class_ 4), (0, .nameAndType 5 6), (0, u "java/lang/Object"), (0, u "<init>"), (0, u "()V"), (0, .class_ 8), (0, u "com/example/prizepath/prizepath/Insertions"), (0, .methodref 7 3), (0, .methodref 7 11), (0, .nameAndType 12 13), (0, u "add"), (0, u "(IIID)V"), (0, .integer 2147483647), (0, .methodref 7 16), (0, .nameAndType 17 18), (0, u "take"), (0, u "(I)Lcom/example/prizepath/prizepath/Insertions$Insertion;"), (0, .methodref 7 20), (0, .nameAndType 21 6), (0, u "clear"), (0, .methodref 7 23), (0, .nameAndType 24 25), (0, u "isEmpty"), (0, u "()Z"), (0, .methodref 7 27), (0, .nameAndType 28 29), (0, u "size"), (0, u "()I"), (0, .class_ 31), (0, u "com/example/prizepath/prizepath/InsertionsIsEmptyPinLaw"), (2, u "law"), (0, u "(IIIIII)Z")] 7

def k1m0 : Method := { name := "<init>", desc := "()V", sig := { parameters := [], returnType := none }, accessFlags := 1, code := none }
def k1c1 : Code := { maxStack := 6, maxLocals := 10, code := code, exceptionTable := #[], attributes := #[] }
def k1m1 : Method := { name := "law", desc := "(IIIIII)Z", sig := { parameters := [.int, .int, .int, .int, .int, .int], returnType := some .boolean }, accessFlags := 9, code := some k1c1 }
/-- com/example/prizepath/prizepath/InsertionsIsEmptyPinLaw -/
def k1 : Class := { plain "com/example/prizepath/prizepath/InsertionsIsEmptyPinLaw" (some 0) with
  accessFlags := 49
  interfaces := #[]
  cf := some (fileOf pool1 30 #[] #[{ accessFlags := 1, nameIndex := 5, descriptorIndex := 6, attributes := #[] }, { accessFlags := 9, nameIndex := 34, descriptorIndex := 35, attributes := #[] }] 49 2 #[] #[])
  fields := #[]
  methods := #[k1m0, k1m1]
  instanceTypes := #[]
  staticTypes := #[]
  resolved := Array.replicate 43 none
  statics := none }

def pool2 : Array CpInfo := pool [(1, .class_ 2), (0, u "java/lang/Integer"), (0, .methodref 4 5), (0, .class_ 6), (0, .nameAndType 7 8), (0, u "java/lang/Object"), (0, u "<init>"), (0, u "()V"), (0, .class_ 10), (0, u "com/example/prizepath/prizepath/Insertions"), (0, .fieldref 9 12), (0, .nameAndType 13 14), (0, u "customers"), (0, u "[I"), (0, .fieldref 9 16), (0, .nameAndType 17 14), (0, u "routes"), (0, .fieldref 9 19), (0, .nameAndType 20 14), (0, u "places"), (0, .fieldref 9 22), (0, .nameAndType 23 24), (0, u "ranks"), (0, u "[D"), (0, .fieldref 9 26), (0, .nameAndType 27 14), (0, u "kept"), (0, .fieldref 9 29), (0, .nameAndType 30 31), (0, u "size"), (0, u "I"), (18, .methodref 9 51), (0, .nameAndType 52 53), (0, u "siftUp"), (0, u "(I)V"), (0, .methodref 9 55), (0, .nameAndType 56 57), (0, u "ranksBefore"), (0, u "(II)Z"), (0, .methodref 9 59), (0, .nameAndType 60 53), (0, u "siftDown"), (0, .class_ 62), (0, u "com/example/prizepath/prizepath/Insertions$Insertion"), (0, .methodref 61 64), (0, .nameAndType 7 65), (0, u "(III)V"), (0, .methodref 9 67), (0, .nameAndType 68 53), (0, u "moveLastTo"), (5, u "()Z"), (5, .methodref 81 82), (0, .class_ 83), (0, .nameAndType 84 85), (0, u "java/lang/Double"), (0, u "compare"), (0, u "(DD)I"), (0, .methodref 1 87), (0, .nameAndType 84 88), (0, u "(II)I"), (0, .methodref 9 90), (0, .nameAndType 91 92), (0, u "swapKept"), (0, u "(II)V"), (0, u "NEW_ROUTE"), (1, u "INITIAL_CAPACITY"), (3, u "()I"), (0, u "isEmpty"), (1, u "clear"), (0, u "add"), (0, u "(IIID)V"), (0, u "take"), (0, u "(I)Lcom/example/prizepath/prizepath/Insertions$Insertion;")] 21

def k2c0 : Code := { maxStack := 2, maxLocals := 1, code := prog_15_method_1_code, exceptionTable := #[], attributes := #[] }
def k2m0 : Method := { name := "<init>", desc := "()V", sig := { parameters := [], returnType := none }, accessFlags := 0, code := some k2c0 }
def k2c1 : Code := { maxStack := 1, maxLocals := 1, code := prog_15_method_2_code, exceptionTable := #[], attributes := #[] }
def k2m1 : Method := { name := "size", desc := "()I", sig := { parameters := [], returnType := some .int }, accessFlags := 0, code := some k2c1 }
def k2c2 : Code := { maxStack := 1, maxLocals := 1, code := prog_15_method_3_code, exceptionTable := #[], attributes := #[] }
def k2m2 : Method := { name := "isEmpty", desc := "()Z", sig := { parameters := [], returnType := some .boolean }, accessFlags := 0, code := some k2c2 }
def k2c3 : Code := { maxStack := 2, maxLocals := 1, code := prog_15_method_4_code, exceptionTable := #[], attributes := #[] }
def k2m3 : Method := { name := "clear", desc := "()V", sig := { parameters := [], returnType := none }, accessFlags := 0, code := some k2c3 }
def k2c4 : Code := { maxStack := 4, maxLocals := 7, code := prog_15_method_5_code, exceptionTable := #[], attributes := #[] }
def k2m4 : Method := { name := "add", desc := "(IIID)V", sig := { parameters := [.int, .int, .int, .double], returnType := none }, accessFlags := 0, code := some k2c4 }
def k2c5 : Code := { maxStack := 6, maxLocals := 5, code := prog_15_method_6_code, exceptionTable := #[], attributes := #[] }
def k2m5 : Method := { name := "take", desc := "(I)Lcom/example/prizepath/prizepath/Insertions$Insertion;", sig := { parameters := [.int], returnType := some (.object "com/example/prizepath/prizepath/Insertions$Insertion") }, accessFlags := 0, code := some k2c5 }
def k2c6 : Code := { maxStack := 4, maxLocals := 4, code := prog_15_method_8_code, exceptionTable := #[], attributes := #[] }
def k2m6 : Method := { name := "ranksBefore", desc := "(II)Z", sig := { parameters := [.int, .int], returnType := some .boolean }, accessFlags := 2, code := some k2c6 }
def k2c7 : Code := { maxStack := 4, maxLocals := 4, code := prog_15_method_9_code, exceptionTable := #[], attributes := #[] }
def k2m7 : Method := { name := "siftUp", desc := "(I)V", sig := { parameters := [.int], returnType := none }, accessFlags := 2, code := some k2c7 }
def k2c8 : Code := { maxStack := 5, maxLocals := 4, code := prog_15_method_10_code, exceptionTable := #[], attributes := #[] }
def k2m8 : Method := { name := "siftDown", desc := "(I)V", sig := { parameters := [.int], returnType := none }, accessFlags := 2, code := some k2c8 }
def k2c9 : Code := { maxStack := 4, maxLocals := 4, code := prog_15_method_11_code, exceptionTable := #[], attributes := #[] }
def k2m9 : Method := { name := "swapKept", desc := "(II)V", sig := { parameters := [.int, .int], returnType := none }, accessFlags := 2, code := some k2c9 }
def k2c10 : Code := { maxStack := 4, maxLocals := 2, code := prog_15_method_12_code, exceptionTable := #[], attributes := #[] }
def k2m10 : Method := { name := "moveLastTo", desc := "(I)V", sig := { parameters := [.int], returnType := none }, accessFlags := 2, code := some k2c10 }
/-- com/example/prizepath/prizepath/Insertions -/
def k2 : Class := { plain "com/example/prizepath/prizepath/Insertions" (some 0) with
  accessFlags := 48
  interfaces := #[]
  cf := some (fileOf pool2 9 #[.nestMembers #[61]] #[{ accessFlags := 0, nameIndex := 7, descriptorIndex := 8, attributes := #[] }, { accessFlags := 0, nameIndex := 30, descriptorIndex := 99, attributes := #[] }, { accessFlags := 0, nameIndex := 100, descriptorIndex := 74, attributes := #[] }, { accessFlags := 0, nameIndex := 102, descriptorIndex := 8, attributes := #[] }, { accessFlags := 0, nameIndex := 103, descriptorIndex := 104, attributes := #[] }, { accessFlags := 0, nameIndex := 105, descriptorIndex := 106, attributes := #[] }, { accessFlags := 2, nameIndex := 56, descriptorIndex := 57, attributes := #[] }, { accessFlags := 2, nameIndex := 52, descriptorIndex := 53, attributes := #[] }, { accessFlags := 2, nameIndex := 60, descriptorIndex := 53, attributes := #[] }, { accessFlags := 2, nameIndex := 91, descriptorIndex := 92, attributes := #[] }, { accessFlags := 2, nameIndex := 68, descriptorIndex := 53, attributes := #[] }] 48 4 #[] #[{ accessFlags := 24, nameIndex := 93, descriptorIndex := 31, attributes := #[] }, { accessFlags := 26, nameIndex := 95, descriptorIndex := 31, attributes := #[] }, { accessFlags := 2, nameIndex := 13, descriptorIndex := 14, attributes := #[] }, { accessFlags := 2, nameIndex := 17, descriptorIndex := 14, attributes := #[] }, { accessFlags := 2, nameIndex := 20, descriptorIndex := 14, attributes := #[] }, { accessFlags := 2, nameIndex := 23, descriptorIndex := 24, attributes := #[] }, { accessFlags := 2, nameIndex := 30, descriptorIndex := 31, attributes := #[] }, { accessFlags := 2, nameIndex := 27, descriptorIndex := 14, attributes := #[] }])
  fields := #[{ name := "NEW_ROUTE", type := .int, accessFlags := 24, slot := 0, constantValue := 0 }, { name := "INITIAL_CAPACITY", type := .int, accessFlags := 26, slot := 1, constantValue := 0 }, { name := "customers", type := (.array .int), accessFlags := 2, slot := 0, constantValue := 0 }, { name := "routes", type := (.array .int), accessFlags := 2, slot := 1, constantValue := 0 }, { name := "places", type := (.array .int), accessFlags := 2, slot := 2, constantValue := 0 }, { name := "ranks", type := (.array .double), accessFlags := 2, slot := 3, constantValue := 0 }, { name := "size", type := .int, accessFlags := 2, slot := 4, constantValue := 0 }, { name := "kept", type := (.array .int), accessFlags := 2, slot := 5, constantValue := 0 }]
  methods := #[k2m0, k2m1, k2m2, k2m3, k2m4, k2m5, k2m6, k2m7, k2m8, k2m9, k2m10]
  instanceTypes := #[(.array .int), (.array .int), (.array .int), (.array .double), .int, (.array .int)]
  staticTypes := #[.int, .int]
  resolved := Array.replicate 128 none
  statics := none }

def pool3 : Array CpInfo := pool [(1, .methodref 2 3), (0, .class_ 4), (0, .nameAndType 5 6), (0, u "java/lang/Object"), (0, u "<init>"), (0, u "()V"), (0, .class_ 8), (0, u "java/lang/Record")] 13

def k3c0 : Code := { maxStack := 1, maxLocals := 1, code := jdk_30_method_1_code, exceptionTable := #[], attributes := #[] }
def k3m0 : Method := { name := "<init>", desc := "()V", sig := { parameters := [], returnType := none }, accessFlags := 4, code := some k3c0 }
/-- java/lang/Record -/
def k3 : Class := { plain "java/lang/Record" (some 0) with
  accessFlags := 1057
  interfaces := #[]
  cf := some (fileOf pool3 7 #[] #[{ accessFlags := 4, nameIndex := 5, descriptorIndex := 6, attributes := #[] }] 1057 2 #[] #[])
  fields := #[]
  methods := #[k3m0]
  instanceTypes := #[]
  staticTypes := #[]
  resolved := Array.replicate 22 none
  statics := none }

def pool4 : Array CpInfo := pool [(1, .methodref 2 3), (0, .class_ 4), (0, .nameAndType 5 6), (0, u "java/lang/Record"), (0, u "<init>"), (0, u "()V"), (0, .fieldref 8 9), (0, .class_ 10), (0, .nameAndType 11 12), (0, u "com/example/prizepath/prizepath/Insertions$Insertion"), (0, u "customer"), (0, u "I"), (0, .fieldref 8 14), (0, .nameAndType 15 12), (0, u "route"), (0, .fieldref 8 17), (0, .nameAndType 18 12), (0, u "place"), (12, u "(III)V"), (9, .class_ 42), (0, u "com/example/prizepath/prizepath/Insertions")] 21

def k4c0 : Code := { maxStack := 2, maxLocals := 4, code := prog_16_method_1_code, exceptionTable := #[], attributes := #[] }
def k4m0 : Method := { name := "<init>", desc := "(III)V", sig := { parameters := [.int, .int, .int], returnType := none }, accessFlags := 0, code := some k4c0 }
/-- com/example/prizepath/prizepath/Insertions$Insertion -/
def k4 : Class := { plain "com/example/prizepath/prizepath/Insertions$Insertion" (some 3) with
  accessFlags := 48
  interfaces := #[]
  cf := some (fileOf pool4 8 #[.nestHost 41] #[{ accessFlags := 0, nameIndex := 5, descriptorIndex := 31, attributes := #[] }] 48 2 #[] #[{ accessFlags := 18, nameIndex := 11, descriptorIndex := 12, attributes := #[] }, { accessFlags := 18, nameIndex := 15, descriptorIndex := 12, attributes := #[] }, { accessFlags := 18, nameIndex := 18, descriptorIndex := 12, attributes := #[] }])
  fields := #[{ name := "customer", type := .int, accessFlags := 18, slot := 0, constantValue := 0 }, { name := "route", type := .int, accessFlags := 18, slot := 1, constantValue := 0 }, { name := "place", type := .int, accessFlags := 18, slot := 2, constantValue := 0 }]
  methods := #[k4m0]
  instanceTypes := #[.int, .int, .int]
  staticTypes := #[]
  resolved := Array.replicate 64 none
  statics := none }

def pool5 : Array CpInfo := pool [(1, .class_ 2), (0, u "java/io/Serializable"), (0, .class_ 4), (0, u "java/lang/Object")] 2

/-- java/io/Serializable -/
def k5 : Class := { plain "java/io/Serializable" (some 0) with
  accessFlags := 1537
  interfaces := #[]
  cf := some (fileOf pool5 1 #[] #[] 1537 3 #[] #[])
  fields := #[]
  methods := #[]
  instanceTypes := #[]
  staticTypes := #[]
  resolved := Array.replicate 7 none
  statics := none }

def pool6 : Array CpInfo := pool [(2, .class_ 4), (1, u "java/lang/Object"), (0, u "<init>"), (0, u "()V"), (1, .class_ 10), (1, u "java/lang/Number"), (2, .class_ 14), (0, u "java/io/Serializable"), (0, u "serialVersionUID"), (0, u "J")] 20

def k6m0 : Method := { name := "<init>", desc := "()V", sig := { parameters := [], returnType := none }, accessFlags := 1, code := none }
/-- java/lang/Number -/
def k6 : Class := { plain "java/lang/Number" (some 0) with
  accessFlags := 1057
  interfaces := #[5]
  cf := some (fileOf pool6 8 #[] #[{ accessFlags := 1, nameIndex := 5, descriptorIndex := 6, attributes := #[] }] 1057 2 #[13] #[{ accessFlags := 26, nameIndex := 15, descriptorIndex := 16, attributes := #[] }])
  fields := #[{ name := "serialVersionUID", type := .long, accessFlags := 26, slot := 0, constantValue := 0 }]
  methods := #[k6m0]
  instanceTypes := #[]
  staticTypes := #[.long]
  resolved := Array.replicate 37 none
  statics := none }

def pool7 : Array CpInfo := pool [(1, .class_ 2), (0, u "java/lang/Comparable"), (0, .class_ 4), (0, u "java/lang/Object")] 7

/-- java/lang/Comparable -/
def k7 : Class := { plain "java/lang/Comparable" (some 0) with
  accessFlags := 1537
  interfaces := #[]
  cf := some (fileOf pool7 1 #[] #[] 1537 3 #[] #[])
  fields := #[]
  methods := #[]
  instanceTypes := #[]
  staticTypes := #[]
  resolved := Array.replicate 12 none
  statics := none }

def pool8 : Array CpInfo := pool [(1, .class_ 2), (0, u "java/lang/constant/Constable"), (0, .class_ 4), (0, u "java/lang/Object")] 6

/-- java/lang/constant/Constable -/
def k8 : Class := { plain "java/lang/constant/Constable" (some 0) with
  accessFlags := 1537
  interfaces := #[]
  cf := some (fileOf pool8 1 #[] #[] 1537 3 #[] #[])
  fields := #[]
  methods := #[]
  instanceTypes := #[]
  staticTypes := #[]
  resolved := Array.replicate 11 none
  statics := none }

def pool9 : Array CpInfo := pool [(1, .class_ 2), (0, u "java/lang/constant/ConstantDesc"), (0, .class_ 4), (0, u "java/lang/Object")] 32

/-- java/lang/constant/ConstantDesc -/
def k9 : Class := { plain "java/lang/constant/ConstantDesc" (some 0) with
  accessFlags := 1537
  interfaces := #[]
  cf := some (fileOf pool9 1 #[] #[] 1537 3 #[] #[])
  fields := #[]
  methods := #[]
  instanceTypes := #[]
  staticTypes := #[]
  resolved := Array.replicate 37 none
  statics := none }

def pool10 : Array CpInfo := pool [(1, .class_ 2), (0, u "java/lang/Double"), (11, u "(D)Z"), (31, .methodref 1 47), (0, .nameAndType 48 49), (0, u "doubleToLongBits"), (0, u "(D)J"), (64, .class_ 116), (1, u "java/lang/Number"), (3, u "value"), (0, u "D"), (0, .methodref 1 123), (0, .nameAndType 124 14), (0, u "isNaN"), (9, .methodref 1 135), (0, .nameAndType 136 49), (0, u "doubleToRawLongBits"), (4, u "compare"), (0, u "(DD)I"), (30, u "TYPE"), (0, u "Ljava/lang/Class;"), (0, .class_ 176), (0, u "java/lang/Comparable"), (0, .class_ 178), (0, u "java/lang/constant/Constable"), (0, .class_ 180), (0, u "java/lang/constant/ConstantDesc"), (0, u "POSITIVE_INFINITY"), (3, u "NEGATIVE_INFINITY"), (2, u "NaN"), (2, u "MAX_VALUE"), (0, u "MIN_NORMAL"), (0, u "MIN_VALUE"), (2, u "SIZE"), (0, u "I"), (1, u "PRECISION"), (1, u "MAX_EXPONENT"), (1, u "MIN_EXPONENT"), (1, u "BYTES"), (3, u "serialVersionUID"), (0, u "J")] 79

def k10c0 : Code := { maxStack := 4, maxLocals := 2, code := jdk_117_method_6_code, exceptionTable := #[], attributes := #[] }
def k10m0 : Method := { name := "isNaN", desc := "(D)Z", sig := { parameters := [.double], returnType := some .boolean }, accessFlags := 9, code := some k10c0 }
def k10c1 : Code := { maxStack := 2, maxLocals := 2, code := jdk_117_method_23_code, exceptionTable := #[], attributes := #[] }
def k10m1 : Method := { name := "doubleToLongBits", desc := "(D)J", sig := { parameters := [.double], returnType := some .long }, accessFlags := 9, code := some k10c1 }
def k10m2 : Method := { name := "doubleToRawLongBits", desc := "(D)J", sig := { parameters := [.double], returnType := some .long }, accessFlags := 265, code := none }
def k10c3 : Code := { maxStack := 4, maxLocals := 8, code := jdk_117_method_27_code, exceptionTable := #[], attributes := #[] }
def k10m3 : Method := { name := "compare", desc := "(DD)I", sig := { parameters := [.double, .double], returnType := some .int }, accessFlags := 9, code := some k10c3 }
/-- java/lang/Double -/
def k10 : Class := { plain "java/lang/Double" (some 6) with
  accessFlags := 49
  interfaces := #[7, 8, 9]
  cf := some (fileOf pool10 1 #[] #[{ accessFlags := 9, nameIndex := 124, descriptorIndex := 14, attributes := #[] }, { accessFlags := 9, nameIndex := 48, descriptorIndex := 49, attributes := #[] }, { accessFlags := 265, nameIndex := 136, descriptorIndex := 49, attributes := #[] }, { accessFlags := 9, nameIndex := 141, descriptorIndex := 142, attributes := #[] }] 49 114 #[175, 177, 179] #[{ accessFlags := 25, nameIndex := 181, descriptorIndex := 121, attributes := #[] }, { accessFlags := 25, nameIndex := 185, descriptorIndex := 121, attributes := #[] }, { accessFlags := 25, nameIndex := 188, descriptorIndex := 121, attributes := #[] }, { accessFlags := 25, nameIndex := 191, descriptorIndex := 121, attributes := #[] }, { accessFlags := 25, nameIndex := 192, descriptorIndex := 121, attributes := #[] }, { accessFlags := 25, nameIndex := 193, descriptorIndex := 121, attributes := #[] }, { accessFlags := 25, nameIndex := 196, descriptorIndex := 197, attributes := #[] }, { accessFlags := 25, nameIndex := 199, descriptorIndex := 197, attributes := #[] }, { accessFlags := 25, nameIndex := 201, descriptorIndex := 197, attributes := #[] }, { accessFlags := 25, nameIndex := 203, descriptorIndex := 197, attributes := #[] }, { accessFlags := 25, nameIndex := 205, descriptorIndex := 197, attributes := #[] }, { accessFlags := 25, nameIndex := 173, descriptorIndex := 174, attributes := #[] }, { accessFlags := 18, nameIndex := 120, descriptorIndex := 121, attributes := #[] }, { accessFlags := 26, nameIndex := 209, descriptorIndex := 210, attributes := #[] }])
  fields := #[{ name := "POSITIVE_INFINITY", type := .double, accessFlags := 25, slot := 0, constantValue := 0 }, { name := "NEGATIVE_INFINITY", type := .double, accessFlags := 25, slot := 1, constantValue := 0 }, { name := "NaN", type := .double, accessFlags := 25, slot := 2, constantValue := 0 }, { name := "MAX_VALUE", type := .double, accessFlags := 25, slot := 3, constantValue := 0 }, { name := "MIN_NORMAL", type := .double, accessFlags := 25, slot := 4, constantValue := 0 }, { name := "MIN_VALUE", type := .double, accessFlags := 25, slot := 5, constantValue := 0 }, { name := "SIZE", type := .int, accessFlags := 25, slot := 6, constantValue := 0 }, { name := "PRECISION", type := .int, accessFlags := 25, slot := 7, constantValue := 0 }, { name := "MAX_EXPONENT", type := .int, accessFlags := 25, slot := 8, constantValue := 0 }, { name := "MIN_EXPONENT", type := .int, accessFlags := 25, slot := 9, constantValue := 0 }, { name := "BYTES", type := .int, accessFlags := 25, slot := 10, constantValue := 0 }, { name := "TYPE", type := (.object "java/lang/Class"), accessFlags := 25, slot := 11, constantValue := 0 }, { name := "value", type := .double, accessFlags := 18, slot := 0, constantValue := 0 }, { name := "serialVersionUID", type := .long, accessFlags := 26, slot := 12, constantValue := 0 }]
  methods := #[k10m0, k10m1, k10m2, k10m3]
  instanceTypes := #[.double]
  staticTypes := #[.double, .double, .double, .double, .double, .double, .int, .int, .int, .int, .int, (.object "java/lang/Class"), .long]
  resolved := Array.replicate 290 none
  statics := none }

def pool11 : Array CpInfo := pool [(1, .class_ 2), (0, u "java/lang/Integer"), (16, u "digits"), (0, u "[C"), (39, u "(II)I"), (24, u "DigitOnes"), (0, u "[B"), (2, u "DigitTens"), (99, .class_ 190), (0, u "java/lang/Integer$IntegerCache"), (3, u "I"), (8, .class_ 204), (0, u "java/lang/Number"), (2, u "value"), (53, u "compare"), (40, u "TYPE"), (0, u "Ljava/lang/Class;"), (0, .class_ 305), (0, u "java/lang/Comparable"), (0, .class_ 307), (0, u "java/lang/constant/Constable"), (0, .class_ 309), (0, u "java/lang/constant/ConstantDesc"), (0, u "MIN_VALUE"), (1, u "MAX_VALUE"), (3, u "SIZE"), (1, u "BYTES"), (1, u "serialVersionUID"), (0, u "J")] 131

def k11c0 : Code := { maxStack := 2, maxLocals := 2, code := jdk_33_method_40_code, exceptionTable := #[], attributes := #[] }
def k11m0 : Method := { name := "compare", desc := "(II)I", sig := { parameters := [.int, .int], returnType := some .int }, accessFlags := 9, code := some k11c0 }
/-- java/lang/Integer -/
def k11 : Class := { plain "java/lang/Integer" (some 6) with
  accessFlags := 49
  interfaces := #[7, 8, 9]
  cf := some (fileOf pool11 1 #[.nestMembers #[189]] #[{ accessFlags := 9, nameIndex := 261, descriptorIndex := 60, attributes := #[] }] 49 203 #[304, 306, 308] #[{ accessFlags := 25, nameIndex := 310, descriptorIndex := 194, attributes := #[] }, { accessFlags := 25, nameIndex := 312, descriptorIndex := 194, attributes := #[] }, { accessFlags := 25, nameIndex := 302, descriptorIndex := 303, attributes := #[] }, { accessFlags := 24, nameIndex := 19, descriptorIndex := 20, attributes := #[] }, { accessFlags := 24, nameIndex := 89, descriptorIndex := 86, attributes := #[] }, { accessFlags := 24, nameIndex := 85, descriptorIndex := 86, attributes := #[] }, { accessFlags := 18, nameIndex := 207, descriptorIndex := 194, attributes := #[] }, { accessFlags := 25, nameIndex := 316, descriptorIndex := 194, attributes := #[] }, { accessFlags := 25, nameIndex := 318, descriptorIndex := 194, attributes := #[] }, { accessFlags := 26, nameIndex := 320, descriptorIndex := 321, attributes := #[] }])
  fields := #[{ name := "MIN_VALUE", type := .int, accessFlags := 25, slot := 0, constantValue := 0 }, { name := "MAX_VALUE", type := .int, accessFlags := 25, slot := 1, constantValue := 0 }, { name := "TYPE", type := (.object "java/lang/Class"), accessFlags := 25, slot := 2, constantValue := 0 }, { name := "digits", type := (.array .char), accessFlags := 24, slot := 3, constantValue := 0 }, { name := "DigitTens", type := (.array .byte), accessFlags := 24, slot := 4, constantValue := 0 }, { name := "DigitOnes", type := (.array .byte), accessFlags := 24, slot := 5, constantValue := 0 }, { name := "value", type := .int, accessFlags := 18, slot := 0, constantValue := 0 }, { name := "SIZE", type := .int, accessFlags := 25, slot := 6, constantValue := 0 }, { name := "BYTES", type := .int, accessFlags := 25, slot := 7, constantValue := 0 }, { name := "serialVersionUID", type := .long, accessFlags := 26, slot := 8, constantValue := 0 }]
  methods := #[k11m0]
  instanceTypes := #[.int]
  staticTypes := #[.int, .int, (.object "java/lang/Class"), (.array .char), (.array .byte), (.array .byte), .int, .int, .long]
  resolved := Array.replicate 453 none
  statics := none }

def pool12 : Array CpInfo := pool [(1, u "java/lang/Cloneable"), (0, .class_ 1), (0, u "java/lang/Object"), (0, .class_ 3)] 3

/-- java/lang/Cloneable -/
def k12 : Class := { plain "java/lang/Cloneable" (some 0) with
  accessFlags := 1537
  interfaces := #[]
  cf := some (fileOf pool12 2 #[] #[] 1537 4 #[] #[])
  fields := #[]
  methods := #[]
  instanceTypes := #[]
  staticTypes := #[]
  resolved := Array.replicate 8 none
  statics := none }

/-- the primitive byte -/
def k13 : Class := { plain "byte" none with kind := .primitive 'B', accessFlags := 0x411 }
/-- [B -/
def k14 : Class := { plain "[B" (some 0) with kind := .array 13 .byte, interfaces := #[12, 5], accessFlags := 1041 }

/-- the primitive double -/
def k15 : Class := { plain "double" none with kind := .primitive 'D', accessFlags := 0x411 }
/-- [D -/
def k16 : Class := { plain "[D" (some 0) with kind := .array 15 .double, interfaces := #[12, 5], accessFlags := 1041 }

/-- the primitive int -/
def k17 : Class := { plain "int" none with kind := .primitive 'I', accessFlags := 0x411 }
/-- [I -/
def k18 : Class := { plain "[I" (some 0) with kind := .array 17 .int, interfaces := #[12, 5], accessFlags := 1041 }

def heap : Heap := #[]
def classes : Array Class := #[k0, k1, k2, k3, k4, k5, k6, k7, k8, k9, k10, k11, k12, k13, k14, k15, k16, k17, k18]
def interned : List (Array UInt16 × Addr) := []
def slotsUsed : Nat := 0
def theMethod : MethodId := ⟨1, 1⟩
def args0 : Array Value := #[.int 5, .int 5, .int 5, .int 5, .int 5, .int 5]
def aboutOver (below : List Frame) : State where
  vm := { classes := classes, interned := interned.toArray }
  heap := heap
  slotsUsed := slotsUsed
  threads := #[{ frames := .invoking theMethod args0 :: below }]
def below0 : List Frame := [.native { method := ⟨0, 0⟩, args := #[] }]
def about1 : State := aboutOver below0
def p0 : Program := .bare "" "" ""
def e0 : Env := launch0.env 0 0 0
theorem w_frames : about1.frames = Frame.invoking theMethod args0 :: below0 := rfl
set_option maxRecDepth 65536 in
theorem w_args : argsFit about1.vm theMethod args0 = true := by decide +kernel
set_option maxRecDepth 65536 in
theorem w_heap : heapFits about1 = true := by decide +kernel
set_option maxRecDepth 65536 in
theorem w_runnable : about1.curStatus? = some .runnable := by decide +kernel
set_option maxRecDepth 65536 in
theorem w_alone : about1.alone = true := by decide +kernel
set_option maxRecDepth 65536 in
theorem w_named : about1.methodNamed? x = some theMethod := by decide +kernel
set_option maxRecDepth 65536 in
theorem w_hears : about1.hears theMethod below0 = true := by decide +kernel
set_option maxRecDepth 65536 in
theorem w_ripe : about1.ripe theMethod args0 below0 = true := by decide +kernel
theorem w_running : about1.status = .running := rfl
set_option maxRecDepth 65536 in
theorem w_room : about1.hasRoom e0.platform room_1 = true :=
  launch0.hasRoom_least _ room_1 (by decide +kernel) (by decide +kernel) (by decide +kernel) (by decide +kernel) (by decide +kernel) (by decide +kernel)
theorem allAtoms_all (ts : List Jvm.Cond) (a : Array Jvm.Value) (st : Jvm.State) : (allAtoms ts).before a st = ts.all (fun c => c.before a st) := by
  induction ts with
  | nil => rfl
  | cons c t ih =>
    show (Jvm.Cond.and c (allAtoms t)).before a st = _
    rw [Jvm.Cond.before_and, ih, List.all_cons]
def words1 : List Jvm.Cond := Jvm.Cond.code x code maxLocals ret :: tables_1
/-- a 'code' word, met by the world's own term for the bytes: nothing is compared byte by byte -/
theorem code_word {y : MethodName} {bytes : ByteArray} {mx : Nat} {rt : Option FieldType} {a : Array Value} {s : State} {m : MethodId} {meth : Method} {c : Code} (h1 : s.methodNamed? y = some m) (h2 : s.vm.method? m = some meth) (h3 : meth.code = some c) (h4 : c.code = bytes)
    (h5 : (c.maxLocals == mx && c.exceptionTable.isEmpty && decide (c.maxStack ≤ mostOperands) && decide (meth.sig.returnType = rt) && !meth.locks && decide (parseMethodDescriptor y.desc = some meth.sig)) = true) : (Jvm.Cond.code y bytes mx rt).before a s = true := by
  simp only [Bool.and_eq_true, beq_iff_eq, Bool.not_eq_true', decide_eq_true_eq] at h5
  obtain ⟨⟨⟨⟨⟨g1, g2⟩, g3⟩, g4⟩, g5⟩, g6⟩ := h5
  simp [Cond.before, Cond.holds, Cond.value, h1, h2, h3, h4, g1, g2, g3, g4, g5, g6]
def isCode : Jvm.Cond → Bool
  | .code _ _ _ _ => true
  | _ => false
theorem all_split {L : List Jvm.Cond} {P : Jvm.Cond → Bool} (h1 : L.all (fun c => isCode c || P c) = true) (h2 : ∀ c ∈ L.filter isCode, P c = true) : L.all P = true := by
  refine List.all_eq_true.mpr fun c hc => ?_
  have h := List.all_eq_true.mp h1 c hc
  rcases Bool.eq_false_or_eq_true (isCode c) with hi | hi
  · exact h2 c (List.mem_filter.mpr ⟨hc, hi⟩)
  · simpa [hi] using h
set_option maxRecDepth 65536 in
theorem w_c0 : (Jvm.Cond.code x code maxLocals ret).before args0 about1 = true := code_word (m := ⟨1, 1⟩) (meth := k1m1) (c := k1c1) (by decide +kernel) rfl rfl rfl (by decide +kernel)
set_option maxRecDepth 65536 in
theorem w_c1 : (Jvm.Cond.code ({ cls := "com/example/prizepath/prizepath/Insertions", name := "<init>", desc := "()V" } : Jvm.MethodName) prog_15_method_1_code (1 : Nat) (Option.none : Option Jvm.ClassFile.FieldType)).before args0 about1 = true := code_word (m := ⟨2, 0⟩) (meth := k2m0) (c := k2c0) (by decide +kernel) rfl rfl rfl (by decide +kernel)
set_option maxRecDepth 65536 in
theorem w_c2 : (Jvm.Cond.code ({ cls := "java/lang/Object", name := "<init>", desc := "()V" } : Jvm.MethodName) object_method_1_code (1 : Nat) (Option.none : Option Jvm.ClassFile.FieldType)).before args0 about1 = true := code_word (m := ⟨0, 0⟩) (meth := k0m0) (c := k0c0) (by decide +kernel) rfl rfl rfl (by decide +kernel)
set_option maxRecDepth 65536 in
theorem w_c3 : (Jvm.Cond.code ({ cls := "com/example/prizepath/prizepath/Insertions", name := "clear", desc := "()V" } : Jvm.MethodName) prog_15_method_4_code (1 : Nat) (Option.none : Option Jvm.ClassFile.FieldType)).before args0 about1 = true := code_word (m := ⟨2, 3⟩) (meth := k2m3) (c := k2c3) (by decide +kernel) rfl rfl rfl (by decide +kernel)
set_option maxRecDepth 65536 in
theorem w_c4 : (Jvm.Cond.code ({ cls := "com/example/prizepath/prizepath/Insertions", name := "isEmpty", desc := "()Z" } : Jvm.MethodName) prog_15_method_3_code (1 : Nat) (Option.some Jvm.ClassFile.FieldType.boolean)).before args0 about1 = true := code_word (m := ⟨2, 2⟩) (meth := k2m2) (c := k2c2) (by decide +kernel) rfl rfl rfl (by decide +kernel)
set_option maxRecDepth 65536 in
theorem w_c5 : (Jvm.Cond.code ({ cls := "com/example/prizepath/prizepath/Insertions", name := "size", desc := "()I" } : Jvm.MethodName) prog_15_method_2_code (1 : Nat) (Option.some Jvm.ClassFile.FieldType.int)).before args0 about1 = true := code_word (m := ⟨2, 1⟩) (meth := k2m1) (c := k2c1) (by decide +kernel) rfl rfl rfl (by decide +kernel)
set_option maxRecDepth 65536 in
theorem w_c6 : (Jvm.Cond.code ({ cls := "com/example/prizepath/prizepath/Insertions", name := "add", desc := "(IIID)V" } : Jvm.MethodName) prog_15_method_5_code (7 : Nat) (Option.none : Option Jvm.ClassFile.FieldType)).before args0 about1 = true := code_word (m := ⟨2, 4⟩) (meth := k2m4) (c := k2c4) (by decide +kernel) rfl rfl rfl (by decide +kernel)
set_option maxRecDepth 65536 in
theorem w_c7 : (Jvm.Cond.code ({ cls := "com/example/prizepath/prizepath/Insertions", name := "take", desc := "(I)Lcom/example/prizepath/prizepath/Insertions$Insertion;" } : Jvm.MethodName) prog_15_method_6_code (5 : Nat) (Option.some (Jvm.ClassFile.FieldType.object "com/example/prizepath/prizepath/Insertions$Insertion"))).before args0 about1 = true := code_word (m := ⟨2, 5⟩) (meth := k2m5) (c := k2c5) (by decide +kernel) rfl rfl rfl (by decide +kernel)
set_option maxRecDepth 65536 in
theorem w_c8 : (Jvm.Cond.code ({ cls := "com/example/prizepath/prizepath/Insertions", name := "siftUp", desc := "(I)V" } : Jvm.MethodName) prog_15_method_9_code (4 : Nat) (Option.none : Option Jvm.ClassFile.FieldType)).before args0 about1 = true := code_word (m := ⟨2, 7⟩) (meth := k2m7) (c := k2c7) (by decide +kernel) rfl rfl rfl (by decide +kernel)
set_option maxRecDepth 65536 in
theorem w_c9 : (Jvm.Cond.code ({ cls := "com/example/prizepath/prizepath/Insertions$Insertion", name := "<init>", desc := "(III)V" } : Jvm.MethodName) prog_16_method_1_code (4 : Nat) (Option.none : Option Jvm.ClassFile.FieldType)).before args0 about1 = true := code_word (m := ⟨4, 0⟩) (meth := k4m0) (c := k4c0) (by decide +kernel) rfl rfl rfl (by decide +kernel)
set_option maxRecDepth 65536 in
theorem w_c10 : (Jvm.Cond.code ({ cls := "java/lang/Record", name := "<init>", desc := "()V" } : Jvm.MethodName) jdk_30_method_1_code (1 : Nat) (Option.none : Option Jvm.ClassFile.FieldType)).before args0 about1 = true := code_word (m := ⟨3, 0⟩) (meth := k3m0) (c := k3c0) (by decide +kernel) rfl rfl rfl (by decide +kernel)
set_option maxRecDepth 65536 in
theorem w_c11 : (Jvm.Cond.code ({ cls := "com/example/prizepath/prizepath/Insertions", name := "moveLastTo", desc := "(I)V" } : Jvm.MethodName) prog_15_method_12_code (2 : Nat) (Option.none : Option Jvm.ClassFile.FieldType)).before args0 about1 = true := code_word (m := ⟨2, 10⟩) (meth := k2m10) (c := k2c10) (by decide +kernel) rfl rfl rfl (by decide +kernel)
set_option maxRecDepth 65536 in
theorem w_c12 : (Jvm.Cond.code ({ cls := "com/example/prizepath/prizepath/Insertions", name := "ranksBefore", desc := "(II)Z" } : Jvm.MethodName) prog_15_method_8_code (4 : Nat) (Option.some Jvm.ClassFile.FieldType.boolean)).before args0 about1 = true := code_word (m := ⟨2, 6⟩) (meth := k2m6) (c := k2c6) (by decide +kernel) rfl rfl rfl (by decide +kernel)
set_option maxRecDepth 65536 in
theorem w_c13 : (Jvm.Cond.code ({ cls := "java/lang/Double", name := "compare", desc := "(DD)I" } : Jvm.MethodName) jdk_117_method_27_code (8 : Nat) (Option.some Jvm.ClassFile.FieldType.int)).before args0 about1 = true := code_word (m := ⟨10, 3⟩) (meth := k10m3) (c := k10c3) (by decide +kernel) rfl rfl rfl (by decide +kernel)
set_option maxRecDepth 65536 in
theorem w_c14 : (Jvm.Cond.code ({ cls := "com/example/prizepath/prizepath/Insertions", name := "swapKept", desc := "(II)V" } : Jvm.MethodName) prog_15_method_11_code (4 : Nat) (Option.none : Option Jvm.ClassFile.FieldType)).before args0 about1 = true := code_word (m := ⟨2, 9⟩) (meth := k2m9) (c := k2c9) (by decide +kernel) rfl rfl rfl (by decide +kernel)
set_option maxRecDepth 65536 in
theorem w_c15 : (Jvm.Cond.code ({ cls := "com/example/prizepath/prizepath/Insertions", name := "siftDown", desc := "(I)V" } : Jvm.MethodName) prog_15_method_10_code (4 : Nat) (Option.none : Option Jvm.ClassFile.FieldType)).before args0 about1 = true := code_word (m := ⟨2, 8⟩) (meth := k2m8) (c := k2c8) (by decide +kernel) rfl rfl rfl (by decide +kernel)
set_option maxRecDepth 65536 in
theorem w_c16 : (Jvm.Cond.code ({ cls := "java/lang/Double", name := "doubleToLongBits", desc := "(D)J" } : Jvm.MethodName) jdk_117_method_23_code (2 : Nat) (Option.some Jvm.ClassFile.FieldType.long)).before args0 about1 = true := code_word (m := ⟨10, 1⟩) (meth := k10m1) (c := k10c1) (by decide +kernel) rfl rfl rfl (by decide +kernel)
set_option maxRecDepth 65536 in
theorem w_c17 : (Jvm.Cond.code ({ cls := "java/lang/Double", name := "isNaN", desc := "(D)Z" } : Jvm.MethodName) jdk_117_method_6_code (2 : Nat) (Option.some Jvm.ClassFile.FieldType.boolean)).before args0 about1 = true := code_word (m := ⟨10, 0⟩) (meth := k10m0) (c := k10c0) (by decide +kernel) rfl rfl rfl (by decide +kernel)
set_option maxRecDepth 65536 in
theorem w_c18 : (Jvm.Cond.code ({ cls := "java/lang/Integer", name := "compare", desc := "(II)I" } : Jvm.MethodName) jdk_33_method_40_code (2 : Nat) (Option.some Jvm.ClassFile.FieldType.int)).before args0 about1 = true := code_word (m := ⟨11, 0⟩) (meth := k11m0) (c := k11c0) (by decide +kernel) rfl rfl rfl (by decide +kernel)
def codes1 : List Jvm.Cond := [Jvm.Cond.code x code maxLocals ret, Jvm.Cond.code ({ cls := "com/example/prizepath/prizepath/Insertions", name := "<init>", desc := "()V" } : Jvm.MethodName) prog_15_method_1_code (1 : Nat) (Option.none : Option Jvm.ClassFile.FieldType), Jvm.Cond.code ({ cls := "java/lang/Object", name := "<init>", desc := "()V" } : Jvm.MethodName) object_method_1_code (1 : Nat) (Option.none : Option Jvm.ClassFile.FieldType), Jvm.Cond.code ({ cls := "com/example/prizepath/prizepath/Insertions", name := "clear", desc := "()V" } : Jvm.MethodName) prog_15_method_4_code (1 : Nat) (Option.none : Option Jvm.ClassFile.FieldType), Jvm.Cond.code ({ cls := "com/example/prizepath/prizepath/Insertions", name := "isEmpty", desc := "()Z" } : Jvm.MethodName) prog_15_method_3_code (1 : Nat) (Option.some Jvm.ClassFile.FieldType.boolean), Jvm.Cond.code ({ cls := "com/example/prizepath/prizepath/Insertions", name := "size", desc := "()I" } : Jvm.MethodName) prog_15_method_2_code (1 : Nat) (Option.some Jvm.ClassFile.FieldType.int), Jvm.Cond.code ({ cls := "com/example/prizepath/prizepath/Insertions", name := "add", desc := "(IIID)V" } : Jvm.MethodName) prog_15_method_5_code (7 : Nat) (Option.none : Option Jvm.ClassFile.FieldType), Jvm.Cond.code ({ cls := "com/example/prizepath/prizepath/Insertions", name := "take", desc := "(I)Lcom/example/prizepath/prizepath/Insertions$Insertion;" } : Jvm.MethodName) prog_15_method_6_code (5 : Nat) (Option.some (Jvm.ClassFile.FieldType.object "com/example/prizepath/prizepath/Insertions$Insertion")), Jvm.Cond.code ({ cls := "com/example/prizepath/prizepath/Insertions", name := "siftUp", desc := "(I)V" } : Jvm.MethodName) prog_15_method_9_code (4 : Nat) (Option.none : Option Jvm.ClassFile.FieldType), Jvm.Cond.code ({ cls := "com/example/prizepath/prizepath/Insertions$Insertion", name := "<init>", desc := "(III)V" } : Jvm.MethodName) prog_16_method_1_code (4 : Nat) (Option.none : Option Jvm.ClassFile.FieldType), Jvm.Cond.code ({ cls := "java/lang/Record", name := "<init>", desc := "()V" } : Jvm.MethodName) jdk_30_method_1_code (1 : Nat) (Option.none : Option Jvm.ClassFile.FieldType), Jvm.Cond.code ({ cls := "com/example/prizepath/prizepath/Insertions", name := "moveLastTo", desc := "(I)V" } : Jvm.MethodName) prog_15_method_12_code (2 : Nat) (Option.none : Option Jvm.ClassFile.FieldType), Jvm.Cond.code ({ cls := "com/example/prizepath/prizepath/Insertions", name := "ranksBefore", desc := "(II)Z" } : Jvm.MethodName) prog_15_method_8_code (4 : Nat) (Option.some Jvm.ClassFile.FieldType.boolean), Jvm.Cond.code ({ cls := "java/lang/Double", name := "compare", desc := "(DD)I" } : Jvm.MethodName) jdk_117_method_27_code (8 : Nat) (Option.some Jvm.ClassFile.FieldType.int), Jvm.Cond.code ({ cls := "com/example/prizepath/prizepath/Insertions", name := "swapKept", desc := "(II)V" } : Jvm.MethodName) prog_15_method_11_code (4 : Nat) (Option.none : Option Jvm.ClassFile.FieldType), Jvm.Cond.code ({ cls := "com/example/prizepath/prizepath/Insertions", name := "siftDown", desc := "(I)V" } : Jvm.MethodName) prog_15_method_10_code (4 : Nat) (Option.none : Option Jvm.ClassFile.FieldType), Jvm.Cond.code ({ cls := "java/lang/Double", name := "doubleToLongBits", desc := "(D)J" } : Jvm.MethodName) jdk_117_method_23_code (2 : Nat) (Option.some Jvm.ClassFile.FieldType.long), Jvm.Cond.code ({ cls := "java/lang/Double", name := "isNaN", desc := "(D)Z" } : Jvm.MethodName) jdk_117_method_6_code (2 : Nat) (Option.some Jvm.ClassFile.FieldType.boolean), Jvm.Cond.code ({ cls := "java/lang/Integer", name := "compare", desc := "(II)I" } : Jvm.MethodName) jdk_33_method_40_code (2 : Nat) (Option.some Jvm.ClassFile.FieldType.int)]
set_option maxRecDepth 65536 in
theorem codes_eq : words1.filter isCode = codes1 := rfl
theorem w_codes : ∀ c ∈ words1.filter isCode, c.before args0 about1 = true := by
  rw [codes_eq]
  intro c hc
  simp only [codes1, List.mem_cons, List.not_mem_nil, or_false] at hc
  rcases hc with rfl | rfl | rfl | rfl | rfl | rfl | rfl | rfl | rfl | rfl | rfl | rfl | rfl | rfl | rfl | rfl | rfl | rfl | rfl
  · exact w_c0
  · exact w_c1
  · exact w_c2
  · exact w_c3
  · exact w_c4
  · exact w_c5
  · exact w_c6
  · exact w_c7
  · exact w_c8
  · exact w_c9
  · exact w_c10
  · exact w_c11
  · exact w_c12
  · exact w_c13
  · exact w_c14
  · exact w_c15
  · exact w_c16
  · exact w_c17
  · exact w_c18
set_option maxRecDepth 65536 in
theorem w_t1 : (words1.take 24).all (fun c => isCode c || c.before args0 about1) = true := by decide +kernel
set_option maxRecDepth 65536 in
theorem w_t2 : ((words1.drop 24).take 24).all (fun c => isCode c || c.before args0 about1) = true := by decide +kernel
set_option maxRecDepth 65536 in
theorem w_t3 : (((words1.drop 24).drop 24).take 24).all (fun c => isCode c || c.before args0 about1) = true := by decide +kernel
set_option maxRecDepth 65536 in
theorem w_t4 : ((((words1.drop 24).drop 24).drop 24).take 24).all (fun c => isCode c || c.before args0 about1) = true := by decide +kernel
set_option maxRecDepth 65536 in
theorem w_t5 : ((((words1.drop 24).drop 24).drop 24).drop 24).all (fun c => isCode c || c.before args0 about1) = true := by decide +kernel
theorem w_tables : (allAtoms (Jvm.Cond.code x code maxLocals ret :: tables_1)).before args0 about1 = true := by
  rw [allAtoms_all]
  show words1.all (fun c => c.before args0 about1) = true
  refine all_split ?_ w_codes
  rw [← List.take_append_drop 24 words1, List.all_append, w_t1, ← List.take_append_drop 24 (words1.drop 24), List.all_append, w_t2, ← List.take_append_drop 24 ((words1.drop 24).drop 24), List.all_append, w_t3, ← List.take_append_drop 24 (((words1.drop 24).drop 24).drop 24), List.all_append, w_t4, w_t5]
  rfl
set_option maxRecDepth 65536 in
theorem w_case : (Jvm.Cond.and given_1 narrow_1).before args0 about1 = true := by decide +kernel
theorem w_applies : (headSpec (Jvm.Cond.code x code maxLocals ret :: tables_1) room_1).applies x e0.platform about1 = true :=
  (Spec.applies_iff w_frames).mpr ⟨w_running, w_runnable, w_alone, w_named, w_hears, w_ripe, w_room, w_tables⟩
theorem atStart : AtStart classFile x code maxLocals ret World_1 tables_1 room_1 Calls_1 rest_1 Pre_1 launch0 p0 e0 about1 theMethod args0 below0 :=
  ⟨lists_1, trivial, launch0.admits_env _ _ _, launch0.least_env, fairChoices_fair.cas, fairChoices_fair.clock, w_frames, w_args, w_heap, w_applies, trivial, trivial, w_case⟩
end start1
theorem witness_1 : WitnessClaimed_1 := ⟨start1.p0, start1.e0, start1.about1, start1.theMethod, start1.args0, start1.below0, start1.atStart⟩
end Jvm.Pilot.@@N@@
