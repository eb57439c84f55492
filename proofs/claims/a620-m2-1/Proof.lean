import JvmDerived
import JvmDerived.Pilot.@@N@@Statement
import JvmDerived.Pilot.@@N@@Code
set_option linter.unusedVariables false
set_option linter.unusedSimpArgs false
namespace Jvm.OwnFl
open Jvm.FP.Core
/-- the value of a double that is no NaN, counted in units of the least double -/
def own_z (x : UInt64) : Int := zval b64 (val64 x)
/-- how many of those units make 1 -/
def own_pw (n : Nat) : Nat := if h : n = 0 then 1 else 2 * own_pw (n - 1)
termination_by n
decreasing_by omega
theorem own_pw_eq (n : Nat) : own_pw n = 2 ^ n := by
  induction n with
  | zero => rw [own_pw]; rfl
  | succ k ih => rw [own_pw, dif_neg (Nat.succ_ne_zero k), Nat.add_sub_cancel, ih, Nat.pow_succ, Nat.mul_comm]
def own_U : Nat := own_pw 1074
theorem own_U_eq : own_U = 2 ^ 1074 := own_pw_eq 1074
theorem own_U_pos : (0 : Int) < (own_U : Int) := Int.natCast_pos.mpr (own_U_eq ▸ Nat.two_pow_pos 1074)
/-- a whole number of units that is a finite double -/
def own_rep (z : Int) : Prop := ∃ (c : Int) (j : Nat), z = c * ((2 ^ j : Nat) : Int) ∧ c.natAbs < 2 ^ 53 ∧ j ≤ 2045
theorem own_signed (c : Int) : signed (decide (c < 0)) c.natAbs = c := by
  unfold signed
  by_cases h : c < 0
  · simp only [h, decide_true, if_true]; omega
  · simp only [h, decide_false, Bool.false_eq_true, if_false]; omega
theorem own_datum {z : Int} (h : own_rep z) : ∃ s c q, Jvm.FP.Core.fits b64 (.fin s c q) ∧ zval b64 (.fin s c q) = z := by
  obtain ⟨c, j, rfl, hc, hj⟩ := h
  have hm : b64.qmax = 971 := by decide
  have hq := qmin_b64
  obtain ⟨c', q', h1, h2⟩ := round_exact good_b64 (decide (c < 0)) (c := c.natAbs) (q := b64.qmin + (j : Int)) hc (by omega) (by omega)
  refine ⟨_, c', q', h1 ▸ round_fits good_b64 _, ?_⟩
  show signed (decide (c < 0)) (inUnits c' q' b64.qmin) = _
  rw [h2]
  unfold inUnits
  rw [show (b64.qmin + (j : Int) - b64.qmin).toNat = j by omega, signed_mul, own_signed]
theorem own_top {z : Int} (h : own_rep z) : z.natAbs < 2 ^ 2098 := by
  obtain ⟨c, j, rfl, hc, hj⟩ := h
  rw [Int.natAbs_mul, Int.natAbs_natCast]
  have h1 : 2 ^ j ≤ 2 ^ 2045 := Nat.pow_le_pow_right (by decide) hj
  have h2 : c.natAbs * 2 ^ j ≤ c.natAbs * 2 ^ 2045 := Nat.mul_le_mul_left _ h1
  have h3 : c.natAbs * 2 ^ 2045 < 2 ^ 53 * 2 ^ 2045 := Nat.mul_lt_mul_of_pos_right hc (Nat.two_pow_pos _)
  have h4 : (2 : Nat) ^ 53 * 2 ^ 2045 = 2 ^ 2098 := (Nat.pow_add 2 53 2045).symm
  rw [h4] at h3
  exact Nat.lt_of_le_of_lt h2 h3
theorem own_fin_of {x : UInt64} {z : Int} (hn : val64 x ≠ .nan) (hz : own_z x = z) (h : own_rep z) : DFin x := by
  cases hv : val64 x with
  | nan => exact absurd hv hn
  | inf s =>
    exfalso
    have e : own_z x = signed s (b64.tails * 2 ^ (b64.exps - 2)) := by unfold own_z; rw [hv]; rfl
    have l := own_top h
    rw [← hz, e, natAbs_signed] at l
    have t : b64.tails * 2 ^ (b64.exps - 2) = 2 ^ 2098 := by
      rw [tails_b64, show b64.exps - 2 = 2046 by decide]
      exact (Nat.pow_add 2 52 2046).symm
    rw [t] at l
    exact Nat.lt_irrefl _ l
  | fin s c q => exact ⟨s, c, q, hv⟩
theorem own_round_nn (s : Bool) (c : Nat) (q : Int) : round b64 (.fin s c q) ≠ .nan := roundRatio_ne_nan b64 s c 1 q
theorem own_add {x y : UInt64} (hx : DFin x) (hy : DFin y) (h : own_rep (own_z x + own_z y)) : DFin (dadd x y) ∧ own_z (dadd x y) = own_z x + own_z y := by
  obtain ⟨s, c, q, fV, zV⟩ := own_datum h
  have e : own_z (dadd x y) = own_z x + own_z y := by
    show zval b64 (val64 (dadd x y)) = _
    rw [val64_dadd]
    have h1 := sum_le good_b64 hx hy (val64_fits x) (val64_fits y) fV (fun q => Datum.noConfusion q) (Int.le_of_eq zV.symm)
    have h2 := sum_ge good_b64 hx hy (val64_fits x) (val64_fits y) fV (fun q => Datum.noConfusion q) (Int.le_of_eq zV)
    rw [zV] at h1 h2
    exact Int.le_antisymm h1 h2
  refine ⟨own_fin_of ?_ e h, e⟩
  rw [val64_dadd]
  obtain ⟨s1, c1, q1, e1⟩ := hx
  obtain ⟨s2, c2, q2, e2⟩ := hy
  rw [e1, e2]
  exact own_round_nn _ _ _
theorem own_neg {x : UInt64} (hx : DFin x) : DFin (dneg x) ∧ own_z (dneg x) = - own_z x := by
  obtain ⟨s, c, q, e⟩ := hx
  constructor
  · exact ⟨!s, c, q, by rw [val64_dneg, e]; rfl⟩
  · show zval b64 (val64 (dneg x)) = _
    rw [val64_dneg, zval_negate]; rfl
theorem own_sub {x y : UInt64} (hx : DFin x) (hy : DFin y) (h : own_rep (own_z x - own_z y)) : DFin (dsub x y) ∧ own_z (dsub x y) = own_z x - own_z y := by
  obtain ⟨n1, n2⟩ := own_neg hy
  have e : own_z x + own_z (dneg y) = own_z x - own_z y := by rw [n2]; omega
  have k := own_add hx n1 (e ▸ h)
  rw [dsub_eq]
  exact ⟨k.1, k.2.trans e⟩
theorem own_signed_mul2 (s t : Bool) (a b : Nat) : signed (s != t) (a * b) = signed s a * signed t b := by
  cases s <;> cases t <;> simp [signed, Int.natCast_mul, Int.neg_mul, Int.mul_neg]
theorem own_mul {x y : UInt64} {z : Int} (hx : DFin x) (hy : DFin y) (h : own_rep z) (e : own_z x * own_z y = z * (own_U : Int)) : DFin (dmul x y) ∧ own_z (dmul x y) = z := by
  obtain ⟨s, c, q, e1⟩ := hx
  obtain ⟨t, d, r, e2⟩ := hy
  obtain ⟨s', c', q', fV, zV⟩ := own_datum h
  have f1 : Jvm.FP.Core.fits b64 (.fin s c q) := e1 ▸ val64_fits x
  have f2 : Jvm.FP.Core.fits b64 (.fin t d r) := e2 ▸ val64_fits y
  obtain ⟨p1, p2, p3⟩ := product_units f1 f2
  have u1 : own_z x = signed s (zmag b64 (.fin s c q)) := by unfold own_z; rw [e1]; rfl
  have u2 : own_z y = signed t (zmag b64 (.fin t d r)) := by unfold own_z; rw [e2]; rfl
  have hs : signed (s != t) (inUnits (c * d) (q + r) (2 * b64.qmin)) = zval b64 (.fin s' c' q') * ((2 ^ (b64.qmin - 2 * b64.qmin).toNat : Nat) : Int) := by
    rw [p3, own_signed_mul2, ← u1, ← u2, e, zV, show (b64.qmin - 2 * b64.qmin).toNat = 1074 by rw [qmin_b64]; rfl, own_U_eq]
  have hq := qmin_b64
  have k : own_z (dmul x y) = z := by
    show zval b64 (val64 (dmul x y)) = _
    rw [val64_dmul, e1, e2, p1]
    have h1 := zval_round_le good_b64 (s := (s != t)) (c := c * d) (q := q + r) (e0 := 2 * b64.qmin) fV (fun q => Datum.noConfusion q) (by omega) p2 (Int.le_of_eq hs)
    have h2 := zval_round_ge good_b64 (s := (s != t)) (c := c * d) (q := q + r) (e0 := 2 * b64.qmin) fV (fun q => Datum.noConfusion q) (by omega) p2 (Int.le_of_eq hs.symm)
    rw [zV] at h1 h2
    exact Int.le_antisymm h1 h2
  refine ⟨own_fin_of ?_ k h, k⟩
  rw [val64_dmul, e1, e2, p1]
  exact own_round_nn _ _ _
theorem own_nonneg {s : Bool} {m : Nat} (h : 0 ≤ signed s m) : signed s m = (m : Int) := by
  cases s
  · rfl
  · simp only [signed, if_true] at h ⊢; omega
theorem own_pos_sign {s : Bool} {m : Nat} (h : 0 < signed s m) : s = false := by
  cases s
  · rfl
  · simp only [signed, if_true] at h; omega
/-- the quotient of two finite doubles, the divisor not nought -/
theorem own_quot {x y : UInt64} {s t : Bool} {c d : Nat} {q r : Int} (e1 : val64 x = .fin s c q) (e2 : val64 y = .fin t d r) (hd : d ≠ 0) : val64 (ddiv x y) = roundRatio b64 (s != t) c d (q - r) := by
  rw [val64_ddiv, e1, e2]
  unfold quotient
  exact if_neg hd
theorem own_zmag_ne {t : Bool} {d : Nat} {r : Int} (h : signed t (zmag b64 (.fin t d r)) ≠ 0) : d ≠ 0 := by
  intro e
  apply h
  subst e
  show signed t (inUnits 0 r b64.qmin) = 0
  unfold inUnits
  rw [Nat.zero_mul]
  exact signed_zero t
theorem own_pow_shift {A B u v u' v' : Nat} (h : A * 2 ^ u = B * 2 ^ v) (he : u + v' = u' + v) : A * 2 ^ u' = B * 2 ^ v' := by
  refine Nat.eq_of_mul_eq_mul_right (Nat.two_pow_pos v) ?_
  calc A * 2 ^ u' * 2 ^ v = A * 2 ^ (u' + v) := by rw [Nat.mul_assoc, ← Nat.pow_add]
    _ = A * 2 ^ (u + v') := by rw [he]
    _ = A * 2 ^ u * 2 ^ v' := by rw [Nat.mul_assoc, ← Nat.pow_add]
    _ = B * 2 ^ v * 2 ^ v' := by rw [h]
    _ = B * 2 ^ v' * 2 ^ v := by ac_rfl
theorem own_zv {x : UInt64} {s : Bool} {c : Nat} {q : Int} (e : val64 x = .fin s c q) : own_z x = signed s (c * 2 ^ (q - b64.qmin).toNat) := by
  unfold own_z; rw [e]; rfl
theorem own_c0 {s : Bool} {c k : Nat} (h : signed s (c * 2 ^ k) = 0) : c = 0 := by
  rw [signed_eq_zero] at h
  rcases Nat.mul_eq_zero.mp h with h | h
  · exact h
  · have := Nat.two_pow_pos k; omega
theorem own_rr0 (s : Bool) (B : Nat) (e : Int) : zval b64 (roundRatio b64 s 0 B e) = 0 := by
  unfold roundRatio
  rw [if_pos rfl]
  show signed s (inUnits 0 b64.qmin b64.qmin) = 0
  unfold inUnits
  rw [Nat.zero_mul]
  exact signed_zero s
/-- two quotients of one value, none negative -/
theorem own_div_congr {x y x' y' : UInt64} (hx : DFin x) (hy : DFin y) (hx' : DFin x') (hy' : DFin y') (px : 0 ≤ own_z x) (py : 0 < own_z y) (px' : 0 ≤ own_z x') (py' : 0 < own_z y')
    (h : own_z x * own_z y' = own_z x' * own_z y) : own_z (ddiv x y) = own_z (ddiv x' y') := by
  obtain ⟨s, c, q, e1⟩ := hx
  obtain ⟨t, d, r, e2⟩ := hy
  obtain ⟨s', c', q', e1'⟩ := hx'
  obtain ⟨t', d', r', e2'⟩ := hy'
  have f1 : b64.qmin ≤ q := (e1 ▸ val64_fits x : Jvm.FP.Core.fits b64 (.fin s c q)).2.1
  have f2 : b64.qmin ≤ r := (e2 ▸ val64_fits y : Jvm.FP.Core.fits b64 (.fin t d r)).2.1
  have f1' : b64.qmin ≤ q' := (e1' ▸ val64_fits x' : Jvm.FP.Core.fits b64 (.fin s' c' q')).2.1
  have f2' : b64.qmin ≤ r' := (e2' ▸ val64_fits y' : Jvm.FP.Core.fits b64 (.fin t' d' r')).2.1
  rw [own_zv e2] at py h
  rw [own_zv e2'] at py' h
  rw [own_zv e1] at px h
  rw [own_zv e1'] at px' h
  have ht := own_pos_sign py
  have ht' := own_pos_sign py'
  have d0 : d ≠ 0 := fun z => by rw [z, Nat.zero_mul, signed_zero] at py; exact Int.lt_irrefl _ py
  have d0' : d' ≠ 0 := fun z => by rw [z, Nat.zero_mul, signed_zero] at py'; exact Int.lt_irrefl _ py'
  show zval b64 (val64 (ddiv x y)) = zval b64 (val64 (ddiv x' y'))
  rw [own_quot e1 e2 d0, own_quot e1' e2' d0']
  rw [own_nonneg px, own_nonneg px', own_nonneg (Int.le_of_lt py), own_nonneg (Int.le_of_lt py'), ← Int.natCast_mul, ← Int.natCast_mul] at h
  have hN : c * 2 ^ (q - b64.qmin).toNat * (d' * 2 ^ (r' - b64.qmin).toNat) = c' * 2 ^ (q' - b64.qmin).toNat * (d * 2 ^ (r - b64.qmin).toNat) := Int.natCast_inj.mp h
  have hP : c * d' * 2 ^ ((q - b64.qmin).toNat + (r' - b64.qmin).toNat) = c' * d * 2 ^ ((q' - b64.qmin).toNat + (r - b64.qmin).toNat) := by
    rw [Nat.pow_add, Nat.pow_add]
    calc c * d' * (2 ^ (q - b64.qmin).toNat * 2 ^ (r' - b64.qmin).toNat) = c * 2 ^ (q - b64.qmin).toNat * (d' * 2 ^ (r' - b64.qmin).toNat) := by ac_rfl
      _ = c' * 2 ^ (q' - b64.qmin).toNat * (d * 2 ^ (r - b64.qmin).toNat) := hN
      _ = c' * d * (2 ^ (q' - b64.qmin).toNat * 2 ^ (r - b64.qmin).toNat) := by ac_rfl
  have hC : c * d' * 2 ^ ((q - r) - (q' - r')).toNat = c' * d * 2 ^ ((q' - r') - (q - r)).toNat := own_pow_shift hP (by omega)
  by_cases hz : c = 0
  · have hz' : c' = 0 := by
      rw [hz, Nat.zero_mul, Nat.zero_mul] at hC
      rcases Nat.mul_eq_zero.mp hC.symm with k | k
      · rcases Nat.mul_eq_zero.mp k with k | k
        · exact k
        · exact absurd k d0
      · have := Nat.two_pow_pos ((q' - r') - (q - r)).toNat; omega
    rw [hz, hz', own_rr0, own_rr0]
  · have hz' : c' ≠ 0 := by
      intro k
      rw [k, Nat.zero_mul, Nat.zero_mul] at hC
      rcases Nat.mul_eq_zero.mp hC with k | k
      · rcases Nat.mul_eq_zero.mp k with k | k
        · exact hz k
        · exact d0' k
      · have := Nat.two_pow_pos ((q - r) - (q' - r')).toNat; omega
    have sx : s = false := by
      cases s
      · rfl
      · exfalso
        have := Nat.mul_pos (Nat.pos_of_ne_zero hz) (Nat.two_pow_pos (q - b64.qmin).toNat)
        simp only [signed, if_true] at px
        omega
    have sx' : s' = false := by
      cases s'
      · rfl
      · exfalso
        have := Nat.mul_pos (Nat.pos_of_ne_zero hz') (Nat.two_pow_pos (q' - b64.qmin).toNat)
        simp only [signed, if_true] at px'
        omega
    rw [ht, ht', sx, sx', roundRatio_congr (Nat.pos_of_ne_zero d0) (Nat.pos_of_ne_zero d0') hC]
/-- an exact quotient, nothing negative -/
theorem own_div {x y : UInt64} {z : Int} (hx : DFin x) (hy : DFin y) (px : 0 ≤ own_z x) (py : 0 < own_z y) (h : own_rep z) (e : own_z x * (own_U : Int) = z * own_z y) : DFin (ddiv x y) ∧ own_z (ddiv x y) = z := by
  obtain ⟨s, c, q, e1⟩ := hx
  obtain ⟨t, d, r, e2⟩ := hy
  obtain ⟨sv, cv, qv, fV, zV⟩ := own_datum h
  have f1 := (e1 ▸ val64_fits x : Jvm.FP.Core.fits b64 (.fin s c q))
  have f2 := (e2 ▸ val64_fits y : Jvm.FP.Core.fits b64 (.fin t d r))
  have pz : 0 ≤ z := by
    refine Int.not_lt.mp fun k => ?_
    have h1 : z * own_z y < 0 := Int.mul_neg_of_neg_of_pos k py
    have h2 : 0 ≤ own_z x * (own_U : Int) := Int.mul_nonneg px (Int.le_of_lt own_U_pos)
    omega
  have hq := qmin_b64
  have hm : b64.qmax = 971 := by decide
  have q1 := f1.2.1
  have q2 := f1.2.2.1
  have q3 := f2.2.1
  have q4 := f2.2.2.1
  have zM : (zmag b64 (.fin sv cv qv) : Int) = z := by
    have k : 0 ≤ signed sv (zmag b64 (.fin sv cv qv)) := by rw [show signed sv (zmag b64 (.fin sv cv qv)) = z from zV]; exact pz
    rw [← own_nonneg k]; exact zV
  rw [own_zv e1] at px e
  rw [own_zv e2] at py e
  have ht := own_pos_sign py
  have d0 : d ≠ 0 := fun k => by rw [k, Nat.zero_mul, signed_zero] at py; exact Int.lt_irrefl _ py
  rw [own_nonneg px, own_nonneg (Int.le_of_lt py), ← zM, ← Int.natCast_mul, ← Int.natCast_mul] at e
  have hN : c * 2 ^ (q - b64.qmin).toNat * own_U = zmag b64 (.fin sv cv qv) * (d * 2 ^ (r - b64.qmin).toNat) := Int.natCast_inj.mp e
  generalize hmv : zmag b64 (.fin sv cv qv) = mv at hN zM
  have hP : c * 2 ^ ((q - b64.qmin).toNat + 1074) = mv * d * 2 ^ (r - b64.qmin).toNat := by
    rw [Nat.pow_add, ← Nat.mul_assoc, ← own_U_eq, hN, Nat.mul_assoc]
  have hC : c * 2 ^ (q - r - (-4000)).toNat = mv * d * 2 ^ (b64.qmin - (-4000)).toNat := own_pow_shift hP (by omega)
  have hE : inUnits c (q - r) (-4000) = zmag b64 (.fin sv cv qv) * 2 ^ (b64.qmin - (-4000)).toNat * d := by
    unfold inUnits
    rw [hC, hmv]; exact Nat.mul_right_comm _ _ _
  have l1 := zmag_roundRatio_le good_b64 (s := (s != t)) (A := c) (B := d) (e := q - r) (e0 := -4000) (V := .fin sv cv qv) (Nat.pos_of_ne_zero d0) fV (fun q => Datum.noConfusion q) (by omega) (by omega) (Nat.le_of_eq hE)
  have l2 := zmag_roundRatio_ge good_b64 (s := (s != t)) (A := c) (B := d) (e := q - r) (e0 := -4000) (V := .fin sv cv qv) (Nat.pos_of_ne_zero d0) fV (by omega) (by omega) (Nat.le_of_eq hE.symm)
  have l3 : zmag b64 (roundRatio b64 (s != t) c d (q - r)) = mv := by rw [← hmv]; exact Nat.le_antisymm l1 l2
  have k : own_z (ddiv x y) = z := by
    show zval b64 (val64 (ddiv x y)) = z
    rw [own_quot e1 e2 d0]
    by_cases hz : c = 0
    · rw [hz, own_rr0]
      rw [hz, Nat.zero_mul] at hP
      have : mv * d * 2 ^ (r - b64.qmin).toNat = 0 := hP.symm
      rcases Nat.mul_eq_zero.mp this with k | k
      · rcases Nat.mul_eq_zero.mp k with k | k
        · rw [← zM, k]; rfl
        · exact absurd k d0
      · have := Nat.two_pow_pos (r - b64.qmin).toNat; omega
    · have sx : s = false := by
        cases s
        · rfl
        · exfalso
          have := Nat.mul_pos (Nat.pos_of_ne_zero hz) (Nat.two_pow_pos (q - b64.qmin).toNat)
          simp only [signed, if_true] at px
          omega
      unfold zval
      rw [sgn_roundRatio, l3, ht, sx, ← zM]
      rfl
  refine ⟨own_fin_of ?_ k h, k⟩
  rw [own_quot e1 e2 d0]
  exact roundRatio_ne_nan _ _ _ _ _
theorem own_pow_shift_le {A B u v u' v' : Nat} (h : A * 2 ^ u ≤ B * 2 ^ v) (he : u + v' = u' + v) : A * 2 ^ u' ≤ B * 2 ^ v' := by
  refine Nat.le_of_mul_le_mul_right ?_ (Nat.two_pow_pos v)
  calc A * 2 ^ u' * 2 ^ v = A * 2 ^ (u' + v) := by rw [Nat.mul_assoc, ← Nat.pow_add]
    _ = A * 2 ^ (u + v') := by rw [he]
    _ = A * 2 ^ u * 2 ^ v' := by rw [Nat.mul_assoc, ← Nat.pow_add]
    _ ≤ B * 2 ^ v * 2 ^ v' := Nat.mul_le_mul_right _ h
    _ = B * 2 ^ v' * 2 ^ v := by ac_rfl
/-- what a quotient that isn't negative is, by its magnitude -/
theorem own_div_mag {x y : UInt64} (hx : DFin x) (hy : DFin y) (px : 0 ≤ own_z x) (py : 0 < own_z y) : ∃ (c d : Nat) (q r : Int), b64.qmin ≤ q ∧ q ≤ b64.qmax ∧ b64.qmin ≤ r ∧ r ≤ b64.qmax ∧ 0 < d ∧
    own_z x = ((c * 2 ^ (q - b64.qmin).toNat : Nat) : Int) ∧ own_z y = ((d * 2 ^ (r - b64.qmin).toNat : Nat) : Int) ∧ val64 (ddiv x y) ≠ .nan ∧ ∃ s, own_z (ddiv x y) = (zmag b64 (roundRatio b64 s c d (q - r)) : Int) := by
  obtain ⟨s, c, q, e1⟩ := hx
  obtain ⟨t, d, r, e2⟩ := hy
  have f1 := (e1 ▸ val64_fits x : Jvm.FP.Core.fits b64 (.fin s c q))
  have f2 := (e2 ▸ val64_fits y : Jvm.FP.Core.fits b64 (.fin t d r))
  rw [own_zv e1] at px
  rw [own_zv e2] at py
  have d0 : d ≠ 0 := fun k => by rw [k, Nat.zero_mul, signed_zero] at py; exact Int.lt_irrefl _ py
  refine ⟨c, d, q, r, f1.2.1, f1.2.2.1, f2.2.1, f2.2.2.1, Nat.pos_of_ne_zero d0, by rw [own_zv e1, own_nonneg px], by rw [own_zv e2, own_nonneg (Int.le_of_lt py)], ?_, (s != t), ?_⟩
  · rw [own_quot e1 e2 d0]; exact roundRatio_ne_nan _ _ _ _ _
  · show zval b64 (val64 (ddiv x y)) = _
    rw [own_quot e1 e2 d0]
    by_cases hz : c = 0
    · have k : zval b64 (roundRatio b64 (s != t) c d (q - r)) = 0 := by rw [hz]; exact own_rr0 _ _ _
      have k2 := k
      unfold zval at k2
      rw [signed_eq_zero] at k2
      rw [k, k2]; rfl
    · have sx : s = false := by
        cases s
        · rfl
        · exfalso
          have := Nat.mul_pos (Nat.pos_of_ne_zero hz) (Nat.two_pow_pos (q - b64.qmin).toNat)
          simp only [signed, if_true] at px
          omega
      unfold zval
      rw [sgn_roundRatio, own_pos_sign py, sx]
      rfl
theorem own_div_nonneg {x y : UInt64} (hx : DFin x) (hy : DFin y) (px : 0 ≤ own_z x) (py : 0 < own_z y) : val64 (ddiv x y) ≠ .nan ∧ 0 ≤ own_z (ddiv x y) := by
  obtain ⟨c, d, q, r, -, -, -, -, -, -, -, h1, s, h2⟩ := own_div_mag hx hy px py
  exact ⟨h1, by rw [h2]; exact Int.natCast_nonneg _⟩
theorem own_mag_val {w : UInt64} (pw : 0 ≤ own_z w) : own_z w = (zmag b64 (val64 w) : Int) := own_nonneg pw
theorem own_div_le {x y w : UInt64} (hx : DFin x) (hy : DFin y) (px : 0 ≤ own_z x) (py : 0 < own_z y) (hw : val64 w ≠ .nan) (pw : 0 ≤ own_z w) (h : own_z x * (own_U : Int) ≤ own_z w * own_z y) : own_z (ddiv x y) ≤ own_z w := by
  obtain ⟨c, d, q, r, q1, q2, q3, q4, d0, zx, zy, -, s, zq⟩ := own_div_mag hx hy px py
  have hq := qmin_b64
  have hm : b64.qmax = 971 := by decide
  rw [zq, own_mag_val pw]
  rw [zx, zy, own_mag_val pw, ← Int.natCast_mul, ← Int.natCast_mul] at h
  have hN : c * 2 ^ (q - b64.qmin).toNat * own_U ≤ zmag b64 (val64 w) * (d * 2 ^ (r - b64.qmin).toNat) := Int.ofNat_le.mp h
  have hP : c * 2 ^ ((q - b64.qmin).toNat + 1074) ≤ zmag b64 (val64 w) * d * 2 ^ (r - b64.qmin).toNat := by
    rw [Nat.pow_add, ← Nat.mul_assoc, Nat.mul_assoc (zmag b64 (val64 w)), ← own_U_eq]
    exact hN
  have hC : c * 2 ^ (q - r - (-4000)).toNat ≤ zmag b64 (val64 w) * d * 2 ^ (b64.qmin - (-4000)).toNat := own_pow_shift_le hP (by omega)
  refine Int.ofNat_le.mpr (zmag_roundRatio_le good_b64 (e0 := -4000) d0 (val64_fits w) hw (by omega) (by omega) ?_)
  unfold inUnits
  exact Nat.le_trans hC (Nat.le_of_eq (Nat.mul_right_comm _ _ _))
theorem own_div_ge {x y w : UInt64} (hx : DFin x) (hy : DFin y) (px : 0 ≤ own_z x) (py : 0 < own_z y) (pw : 0 ≤ own_z w) (h : own_z w * own_z y ≤ own_z x * (own_U : Int)) : own_z w ≤ own_z (ddiv x y) := by
  obtain ⟨c, d, q, r, q1, q2, q3, q4, d0, zx, zy, -, s, zq⟩ := own_div_mag hx hy px py
  have hq := qmin_b64
  have hm : b64.qmax = 971 := by decide
  rw [zq, own_mag_val pw]
  rw [zx, zy, own_mag_val pw, ← Int.natCast_mul, ← Int.natCast_mul] at h
  have hN : zmag b64 (val64 w) * (d * 2 ^ (r - b64.qmin).toNat) ≤ c * 2 ^ (q - b64.qmin).toNat * own_U := Int.ofNat_le.mp h
  have hP : zmag b64 (val64 w) * d * 2 ^ (r - b64.qmin).toNat ≤ c * 2 ^ ((q - b64.qmin).toNat + 1074) := by
    rw [Nat.pow_add, ← Nat.mul_assoc, Nat.mul_assoc (zmag b64 (val64 w)), ← own_U_eq]
    exact hN
  have hC : zmag b64 (val64 w) * d * 2 ^ (b64.qmin - (-4000)).toNat ≤ c * 2 ^ (q - r - (-4000)).toNat := own_pow_shift_le hP (by omega)
  refine Int.ofNat_le.mpr (zmag_roundRatio_ge good_b64 (e0 := -4000) d0 (val64_fits w) (by omega) (by omega) ?_)
  unfold inUnits
  exact Nat.le_trans (Nat.le_of_eq (Nat.mul_right_comm _ _ _)) hC
/-- x is finite and is n / 2^k -/
def own_is (x : UInt64) (n : Int) (k : Nat) : Prop := DFin x ∧ own_z x * ((2 ^ k : Nat) : Int) = n * (own_U : Int)
theorem own_two_pos (k : Nat) : (0 : Int) < ((2 ^ k : Nat) : Int) := Int.natCast_pos.mpr (Nat.two_pow_pos k)
theorem own_U_split {k : Nat} (hk : k ≤ 1074) : (own_U : Int) = ((2 ^ (1074 - k) : Nat) : Int) * ((2 ^ k : Nat) : Int) := by
  rw [← Int.natCast_mul, ← Nat.pow_add, Nat.sub_add_cancel hk, own_U_eq]
theorem own_rep_of {z n : Int} {k : Nat} (h : z * ((2 ^ k : Nat) : Int) = n * (own_U : Int)) (hn : n.natAbs < 2 ^ 53) (hk : k ≤ 1074) : z = n * ((2 ^ (1074 - k) : Nat) : Int) ∧ own_rep z := by
  have e : z = n * ((2 ^ (1074 - k) : Nat) : Int) := by
    rw [own_U_split hk, ← Int.mul_assoc] at h
    exact Int.eq_of_mul_eq_mul_right (Int.ne_of_gt (own_two_pos k)) h
  exact ⟨e, n, 1074 - k, e, hn, by omega⟩
theorem own_is.nn {x : UInt64} {n : Int} {k : Nat} (h : own_is x n k) : Jvm.Free.Fl.NoNaN64 x := Jvm.Free.Fl.noNaN64_no.mpr ((notNaN_iff x).mpr (by obtain ⟨⟨s, c, q, e⟩, -⟩ := h; rw [e]; exact fun q => Datum.noConfusion q))
theorem own_is.fin {x : UInt64} {n : Int} {k : Nat} (h : own_is x n k) : Jvm.Free.Fl.Fin64 x := Jvm.Free.Fl.fin64_core.mpr h.1
theorem own_is.val {x : UInt64} {n : Int} {k : Nat} (h : own_is x n k) : val64 x ≠ .nan := by obtain ⟨⟨s, c, q, e⟩, -⟩ := h; rw [e]; exact fun q => Datum.noConfusion q
theorem own_is.add {x y : UInt64} {n m : Int} {k : Nat} (hx : own_is x n k) (hy : own_is y m k) (hn : (n + m).natAbs < 2 ^ 53) (hk : k ≤ 1074) : own_is (dadd x y) (n + m) k := by
  have e : (own_z x + own_z y) * ((2 ^ k : Nat) : Int) = (n + m) * (own_U : Int) := by rw [Int.add_mul, Int.add_mul, hx.2, hy.2]
  obtain ⟨a, b⟩ := own_add hx.1 hy.1 (own_rep_of e hn hk).2
  exact ⟨a, by rw [b]; exact e⟩
theorem own_is.sub {x y : UInt64} {n m : Int} {k : Nat} (hx : own_is x n k) (hy : own_is y m k) (hn : (n - m).natAbs < 2 ^ 53) (hk : k ≤ 1074) : own_is (dsub x y) (n - m) k := by
  have e : (own_z x - own_z y) * ((2 ^ k : Nat) : Int) = (n - m) * (own_U : Int) := by rw [Int.sub_mul, Int.sub_mul, hx.2, hy.2]
  obtain ⟨a, b⟩ := own_sub hx.1 hy.1 (own_rep_of e hn hk).2
  exact ⟨a, by rw [b]; exact e⟩
theorem own_is.mul {x y : UInt64} {n m : Int} {k j : Nat} (hx : own_is x n k) (hy : own_is y m j) (hn : (n * m).natAbs < 2 ^ 53) (hk : k + j ≤ 1074) : own_is (dmul x y) (n * m) (k + j) := by
  have hp : ((2 ^ (k + j) : Nat) : Int) = ((2 ^ k : Nat) : Int) * ((2 ^ j : Nat) : Int) := by rw [Nat.pow_add, Int.natCast_mul]
  have e0 : n * m * ((2 ^ (1074 - (k + j)) : Nat) : Int) * ((2 ^ (k + j) : Nat) : Int) = n * m * (own_U : Int) := by rw [own_U_split hk, Int.mul_assoc]
  have e : own_z x * own_z y = n * m * ((2 ^ (1074 - (k + j)) : Nat) : Int) * (own_U : Int) := by
    refine Int.eq_of_mul_eq_mul_right (Int.ne_of_gt (own_two_pos (k + j))) ?_
    calc own_z x * own_z y * ((2 ^ (k + j) : Nat) : Int) = (own_z x * ((2 ^ k : Nat) : Int)) * (own_z y * ((2 ^ j : Nat) : Int)) := by rw [hp]; ac_rfl
      _ = (n * (own_U : Int)) * (m * (own_U : Int)) := by rw [hx.2, hy.2]
      _ = n * m * (own_U : Int) * (own_U : Int) := by ac_rfl
      _ = n * m * ((2 ^ (1074 - (k + j)) : Nat) : Int) * ((2 ^ (k + j) : Nat) : Int) * (own_U : Int) := by rw [e0]
      _ = n * m * ((2 ^ (1074 - (k + j)) : Nat) : Int) * (own_U : Int) * ((2 ^ (k + j) : Nat) : Int) := by ac_rfl
  obtain ⟨a, b⟩ := own_mul hx.1 hy.1 (own_rep_of e0 hn hk).2 e
  exact ⟨a, by rw [b]; exact e0⟩
theorem own_is.div {x y : UInt64} {n m q : Int} {k j i : Nat} (hx : own_is x n k) (hy : own_is y m j) (pn : 0 ≤ n) (pm : 0 < m) (hq : q.natAbs < 2 ^ 53) (hi : i ≤ 1074)
    (h : n * ((2 ^ j : Nat) : Int) * ((2 ^ i : Nat) : Int) = q * m * ((2 ^ k : Nat) : Int)) : own_is (ddiv x y) q i := by
  have e0 : q * ((2 ^ (1074 - i) : Nat) : Int) * ((2 ^ i : Nat) : Int) = q * (own_U : Int) := by rw [own_U_split hi, Int.mul_assoc]
  have px : 0 ≤ own_z x := by
    refine Int.not_lt.mp fun z => ?_
    have h1 := Int.mul_neg_of_neg_of_pos z (own_two_pos k)
    have h2 := Int.mul_nonneg pn (Int.le_of_lt own_U_pos)
    rw [hx.2] at h1; omega
  have py : 0 < own_z y := by
    refine Int.not_le.mp fun z => ?_
    have h1 : own_z y * ((2 ^ j : Nat) : Int) ≤ 0 := Int.mul_nonpos_of_nonpos_of_nonneg z (Int.le_of_lt (own_two_pos j))
    have h2 := Int.mul_pos pm own_U_pos
    rw [hy.2] at h1; omega
  have e : own_z x * (own_U : Int) = q * ((2 ^ (1074 - i) : Nat) : Int) * own_z y := by
    refine Int.eq_of_mul_eq_mul_right (Int.ne_of_gt (Int.mul_pos (Int.mul_pos (own_two_pos k) (own_two_pos j)) (own_two_pos i))) ?_
    calc own_z x * (own_U : Int) * (((2 ^ k : Nat) : Int) * ((2 ^ j : Nat) : Int) * ((2 ^ i : Nat) : Int)) = (own_z x * ((2 ^ k : Nat) : Int)) * (own_U : Int) * ((2 ^ j : Nat) : Int) * ((2 ^ i : Nat) : Int) := by ac_rfl
      _ = (n * ((2 ^ j : Nat) : Int) * ((2 ^ i : Nat) : Int)) * (own_U : Int) * (own_U : Int) := by rw [hx.2]; ac_rfl
      _ = (q * (own_U : Int)) * (m * (own_U : Int)) * ((2 ^ k : Nat) : Int) := by rw [h]; ac_rfl
      _ = (q * ((2 ^ (1074 - i) : Nat) : Int) * ((2 ^ i : Nat) : Int)) * (own_z y * ((2 ^ j : Nat) : Int)) * ((2 ^ k : Nat) : Int) := by rw [e0, hy.2]
      _ = q * ((2 ^ (1074 - i) : Nat) : Int) * own_z y * (((2 ^ k : Nat) : Int) * ((2 ^ j : Nat) : Int) * ((2 ^ i : Nat) : Int)) := by ac_rfl
  obtain ⟨a, b⟩ := own_div hx.1 hy.1 px py (own_rep_of e0 hq hi).2 e
  exact ⟨a, by rw [b]; exact e0⟩
theorem own_is.scale {x : UInt64} {n : Int} {k : Nat} (h : own_is x n k) (i : Nat) : own_is x (n * ((2 ^ i : Nat) : Int)) (k + i) := by
  refine ⟨h.1, ?_⟩
  rw [Nat.pow_add, Int.natCast_mul, ← Int.mul_assoc, h.2]; ac_rfl
theorem own_is.l2d {a : Int64} (h : a.toInt.natAbs < 2 ^ 53) : own_is (l2d a) a.toInt 0 := by
  refine ⟨l2d_fin a, ?_⟩
  have hs : Small53 a := by unfold Small53; omega
  have e := whole_zval good_b64 (val64_fits (Jvm.FP.Core.l2d a)) (l2d_whole hs)
  rw [show (-b64.qmin).toNat = 1074 by rw [qmin_b64]; rfl] at e
  show zval b64 (val64 (Jvm.FP.Core.l2d a)) * _ = _
  rw [e, Nat.pow_zero]
  show _ * (1 : Int) = _
  rw [Int.mul_one, own_U_eq]
theorem own_is.i2d (a : Int32) : own_is (i2d a) a.toInt 0 := by
  rw [i2d_l2d]
  have h := own_is.l2d (a := a.toInt64) (by rw [Int32.toInt_toInt64]; have := a.le_toInt; have := a.toInt_lt; omega)
  rw [Int32.toInt_toInt64] at h
  exact h
theorem own_is.lt_iff {x y : UInt64} {n m : Int} {k : Nat} (hx : own_is x n k) (hy : own_is y m k) : own_z x < own_z y ↔ n < m := by
  have h1 : own_z x * ((2 ^ k : Nat) : Int) < own_z y * ((2 ^ k : Nat) : Int) ↔ own_z x < own_z y := Int.mul_lt_mul_right (own_two_pos k)
  rw [← h1, hx.2, hy.2]
  exact Int.mul_lt_mul_right own_U_pos
theorem own_is.eq_iff {x y : UInt64} {n m : Int} {k : Nat} (hx : own_is x n k) (hy : own_is y m k) : own_z x = own_z y ↔ n = m := by
  have h1 := hx.lt_iff hy
  have h2 := hy.lt_iff hx
  omega
theorem own_cmp_eq {x y : UInt64} (h1 : val64 x ≠ .nan) (h2 : val64 y ≠ .nan) (h : own_z x = own_z y) (o : ClassFile.CmpOp) : Jvm.Op.cmpValue (FP.dcmp x y) o = 0 := by
  rw [show FP.dcmp x y = some .eq from dcmp_eq.mpr ⟨h1, h2, h⟩]; rfl
theorem own_cmp_lt {x y : UInt64} (h1 : val64 x ≠ .nan) (h2 : val64 y ≠ .nan) (h : own_z x < own_z y) (o : ClassFile.CmpOp) : Jvm.Op.cmpValue (FP.dcmp x y) o = -1 := by
  rw [show FP.dcmp x y = some .lt from dcmp_lt.mpr ⟨h1, h2, h⟩]; rfl
theorem own_cmp_gt {x y : UInt64} (h1 : val64 x ≠ .nan) (h2 : val64 y ≠ .nan) (h : own_z y < own_z x) (o : ClassFile.CmpOp) : Jvm.Op.cmpValue (FP.dcmp x y) o = 1 := by
  rw [show FP.dcmp x y = some .gt from dcmp_gt.mpr ⟨h1, h2, h⟩]; rfl
theorem own_cmp_ge {x y : UInt64} (h1 : val64 x ≠ .nan) (h2 : val64 y ≠ .nan) (h : own_z y ≤ own_z x) (o : ClassFile.CmpOp) : ¬ Jvm.Op.cmpValue (FP.dcmp x y) o < 0 := by
  by_cases e : own_z x = own_z y
  · rw [own_cmp_eq h1 h2 e]; decide
  · rw [own_cmp_gt h1 h2 (by omega)]; decide
theorem own_cmp_le {x y : UInt64} (h1 : val64 x ≠ .nan) (h2 : val64 y ≠ .nan) (h : own_z x ≤ own_z y) (o : ClassFile.CmpOp) : ¬ 0 < Jvm.Op.cmpValue (FP.dcmp x y) o := by
  by_cases e : own_z x = own_z y
  · rw [own_cmp_eq h1 h2 e]; decide
  · rw [own_cmp_lt h1 h2 (by omega)]; decide
theorem own_nn_of {x : UInt64} (h : val64 x ≠ .nan) : Jvm.Free.Fl.NoNaN64 x := Jvm.Free.Fl.noNaN64_no.mpr ((notNaN_iff x).mpr h)
theorem own_is.nonneg {x : UInt64} {n : Int} {k : Nat} (hx : own_is x n k) (pn : 0 ≤ n) : 0 ≤ own_z x := by
  refine Int.not_lt.mp fun z => ?_
  have h1 := Int.mul_neg_of_neg_of_pos z (own_two_pos k)
  have h2 := Int.mul_nonneg pn (Int.le_of_lt own_U_pos)
  rw [hx.2] at h1; omega
theorem own_is.pos {x : UInt64} {n : Int} {k : Nat} (hx : own_is x n k) (pn : 0 < n) : 0 < own_z x := by
  refine Int.not_le.mp fun z => ?_
  have h1 : own_z x * ((2 ^ k : Nat) : Int) ≤ 0 := Int.mul_nonpos_of_nonpos_of_nonneg z (Int.le_of_lt (own_two_pos k))
  have h2 := Int.mul_pos pn own_U_pos
  rw [hx.2] at h1; omega
theorem own_is.z {x : UInt64} {n : Int} (hx : own_is x n 0) : own_z x = n * (own_U : Int) := by
  have h := hx.2
  rw [Nat.pow_zero] at h
  exact (Int.mul_one _).symm.trans h
theorem own_is.ceq {x y : UInt64} {n m : Int} {k : Nat} (hx : own_is x n k) (hy : own_is y m k) (h : n = m) (o : ClassFile.CmpOp) : Jvm.Op.cmpValue (FP.dcmp x y) o = 0 := own_cmp_eq hx.val hy.val ((hx.eq_iff hy).mpr h) o
theorem own_is.clt {x y : UInt64} {n m : Int} {k : Nat} (hx : own_is x n k) (hy : own_is y m k) (h : n < m) (o : ClassFile.CmpOp) : Jvm.Op.cmpValue (FP.dcmp x y) o = -1 := own_cmp_lt hx.val hy.val ((hx.lt_iff hy).mpr h) o
theorem own_is.cgt {x y : UInt64} {n m : Int} {k : Nat} (hx : own_is x n k) (hy : own_is y m k) (h : m < n) (o : ClassFile.CmpOp) : Jvm.Op.cmpValue (FP.dcmp x y) o = 1 := own_cmp_gt hx.val hy.val ((hy.lt_iff hx).mpr h) o
theorem own_is.zero : own_is FP.dconst0 0 0 := by
  refine ⟨⟨_, _, _, val64_dconst0⟩, ?_⟩
  show zval b64 (val64 dconst0) * _ = _
  rw [val64_dconst0, Int.zero_mul]
  show signed false (0 * _) * _ = _
  rw [Nat.zero_mul, signed_zero, Int.zero_mul]
theorem own_is.one : own_is FP.dconst1 1 0 := by
  refine ⟨⟨_, _, _, val64_dconst1⟩, ?_⟩
  show zval b64 (val64 dconst1) * _ = _
  rw [val64_dconst1, own_U_eq]
  decide +kernel
end Jvm.OwnFl
namespace Jvm.OwnFl
open Jvm.FP.Core
theorem own_zmag_sign (s s' : Bool) (A B : Nat) (e : Int) : zmag b64 (roundRatio b64 s A B e) = zmag b64 (roundRatio b64 s' A B e) := by
  unfold roundRatio
  split
  · rfl
  · unfold roundAt settle
    split
    · unfold bound
      split <;> rfl
    · unfold bound
      split <;> rfl
theorem own_dist {a x y : Nat} (hx : x < a) (hy : a < y) (h : ((a : Int) - (y : Int)).natAbs ≤ ((a : Int) - (x : Int)).natAbs) : x + y ≤ 2 * a := by omega
theorem own_dist' {a x y : Nat} (hx : x < a) (hy : a < y) (h : ((a : Int) - (x : Int)).natAbs ≤ ((a : Int) - (y : Int)).natAbs) : 2 * a ≤ x + y := by omega
/-- rounding is monotone -/
theorem own_rr_mono {s : Bool} {A B A' B' : Nat} {e e' e0 : Int} (hB : 0 < B) (hB' : 0 < B') (h0 : e0 < b64.qmin) (he : e0 ≤ e) (he' : e0 ≤ e') (h : inUnits A e e0 * B' ≤ inUnits A' e' e0 * B) :
    zmag b64 (roundRatio b64 s A B e) ≤ zmag b64 (roundRatio b64 s A' B' e') := by
  refine Nat.le_of_not_lt fun hlt => ?_
  have h0' : e0 ≤ b64.qmin := by omega
  have fW := roundRatio_fits good_b64 s A hB e
  have fV := roundRatio_fits good_b64 s A' hB' e'
  have nW := roundRatio_ne_nan b64 s A B e
  have nV := roundRatio_ne_nan b64 s A' B' e'
  have k1 : zmag b64 (roundRatio b64 s A' B' e') * 2 ^ (b64.qmin - e0).toNat * B < inUnits A e e0 := Nat.lt_of_not_le fun q => Nat.not_le.mpr hlt (zmag_roundRatio_le good_b64 hB fV nV h0' he q)
  have k2 : inUnits A' e' e0 < zmag b64 (roundRatio b64 s A B e) * 2 ^ (b64.qmin - e0).toNat * B' := Nat.lt_of_not_le fun q => Nat.not_le.mpr hlt (zmag_roundRatio_ge good_b64 hB' fW h0' he' q)
  rcases roundRatio_cases b64 s A' B' e' with ⟨cv, qv, eV⟩ | eV
  · rcases roundRatio_cases b64 s A B e with ⟨cw, qw, eW⟩ | eW
    · have fv := eV ▸ fV
      have fw := eW ▸ fW
      have n1 := roundRatio_nearest good_b64 hB eW fv.1 fv.2.1 h0' he
      have n2 := roundRatio_nearest good_b64 hB' eV fw.1 fw.2.1 h0' he'
      unfold distance at n1 n2
      rw [units_fin fv h0', units_fin fw h0'] at n1 n2
      rw [eV] at k1
      rw [eW] at k2
      generalize zmag b64 (.fin s cv qv) * 2 ^ (b64.qmin - e0).toNat = x at *
      generalize zmag b64 (.fin s cw qw) * 2 ^ (b64.qmin - e0).toNat = y at *
      generalize hI : inUnits A e e0 = a at *
      generalize hI' : inUnits A' e' e0 = a' at *
      have k3 : x * B' < a' := by
        refine Nat.lt_of_mul_lt_mul_right (a := B) ?_
        calc x * B' * B = x * B * B' := by ac_rfl
          _ < a * B' := Nat.mul_lt_mul_of_pos_right k1 hB'
          _ ≤ a' * B := h
      have k4 : a < y * B := by
        refine Nat.lt_of_mul_lt_mul_right (a := B') ?_
        calc a * B' ≤ a' * B := h
          _ < y * B' * B := Nat.mul_lt_mul_of_pos_right k2 hB
          _ = y * B * B' := by ac_rfl
      rw [← Int.natCast_mul, ← Int.natCast_mul] at n1 n2
      have d1 := own_dist k1 k4 n1
      have d2 := own_dist' k3 k2 n2
      have g1 : (x + y) * B * B' ≤ 2 * (a * B') := by
        rw [← Nat.mul_assoc]
        refine Nat.mul_le_mul_right _ ?_
        rw [Nat.add_mul]; exact d1
      have g2 : 2 * (a' * B) ≤ (x + y) * B * B' := by
        rw [← Nat.mul_assoc, show (x + y) * B * B' = (x + y) * B' * B by ac_rfl]
        refine Nat.mul_le_mul_right _ ?_
        rw [Nat.add_mul]; exact d2
      have heq : a * B' = a' * B := by omega
      rw [← hI, ← hI'] at heq
      unfold inUnits at heq
      have hP : A * B' * 2 ^ (e - e0).toNat = A' * B * 2 ^ (e' - e0).toNat := by
        calc A * B' * 2 ^ (e - e0).toNat = A * 2 ^ (e - e0).toNat * B' := by ac_rfl
          _ = A' * 2 ^ (e' - e0).toNat * B := heq
          _ = A' * B * 2 ^ (e' - e0).toNat := by ac_rfl
      have hC : A * B' * 2 ^ (e - e').toNat = A' * B * 2 ^ (e' - e).toNat := own_pow_shift hP (by omega)
      rw [roundRatio_congr hB hB' hC] at hlt
      exact Nat.lt_irrefl _ hlt
    · rw [roundRatio_inf good_b64 hB h0 he] at eW
      have eV2 : roundRatio b64 s A' B' e' = .inf s := by
        rw [roundRatio_inf good_b64 hB' h0 he']
        refine Nat.le_of_mul_le_mul_right (c := B) ?_ hB
        calc (2 ^ (b64.p + 1) - 1) * 2 ^ (b64.qmax - 1 - e0).toNat * B' * B = (2 ^ (b64.p + 1) - 1) * 2 ^ (b64.qmax - 1 - e0).toNat * B * B' := by ac_rfl
          _ ≤ inUnits A e e0 * B' := Nat.mul_le_mul_right _ eW
          _ ≤ inUnits A' e' e0 * B := h
      rw [eV] at eV2
      exact Datum.noConfusion eV2
  · have := zmag_le_top good_b64 fW
    rw [eV] at hlt
    exact Nat.lt_irrefl _ (Nat.lt_of_lt_of_le hlt this)
theorem own_zval_nonneg {d : Datum} (h : sgn d = false) : zval b64 d = (zmag b64 d : Int) := by unfold zval; rw [h]; rfl
/-- whole numbers that aren't negative, converted -/
theorem own_l2d_rr {a : Int64} (h : 0 ≤ a.toInt) : own_z (l2d a) = (zmag b64 (roundRatio b64 false a.toInt.natAbs 1 0) : Int) := by
  show zval b64 (val64 (l2d a)) = _
  rw [val64_l2d]
  unfold ofInt
  rw [show decide (a.toInt < 0) = false from decide_eq_false (by omega)]
  exact own_zval_nonneg (sgn_roundRatio _ _ _ _ _)
theorem own_l2d_mono {a b : Int64} (h0 : 0 ≤ a.toInt) (h : a.toInt ≤ b.toInt) : own_z (l2d a) ≤ own_z (l2d b) := by
  rw [own_l2d_rr h0, own_l2d_rr (Int.le_trans h0 h)]
  refine Int.ofNat_le.mpr (own_rr_mono (e0 := -2000) (by decide) (by decide) (by rw [qmin_b64]; decide) (by decide) (by decide) ?_)
  unfold inUnits
  rw [Nat.mul_one, Nat.mul_one]
  exact Nat.mul_le_mul_right _ (by omega)
/-- a sum of two finite doubles that isn't negative -/
theorem own_sum_rr {x y : UInt64} (hx : DFin x) (hy : DFin y) (h : 0 ≤ own_z x + own_z y) : ∃ (n : Nat) (e : Int), b64.qmin ≤ e ∧ ((inUnits n e b64.qmin : Nat) : Int) = own_z x + own_z y ∧ own_z (dadd x y) = (zmag b64 (roundRatio b64 false n 1 e) : Int) ∧ val64 (dadd x y) ≠ .nan := by
  obtain ⟨s, c, q, e1⟩ := hx
  obtain ⟨t, d, r, e2⟩ := hy
  have f1 : Jvm.FP.Core.fits b64 (.fin s c q) := e1 ▸ val64_fits x
  have f2 : Jvm.FP.Core.fits b64 (.fin t d r) := e2 ▸ val64_fits y
  obtain ⟨sg, n, e, h1, h2, h3⟩ := sum_units f1 f2
  have u1 : own_z x = zval b64 (.fin s c q) := by unfold own_z; rw [e1]
  have u2 : own_z y = zval b64 (.fin t d r) := by unfold own_z; rw [e2]
  rw [show zval b64 (.fin s c q) + zval b64 (.fin t d r) = own_z x + own_z y by rw [u1, u2]] at h3
  have v : val64 (dadd x y) = roundRatio b64 sg n 1 e := by rw [val64_dadd, e1, e2, h1]; rfl
  refine ⟨n, e, h2, ?_, ?_, by rw [v]; exact roundRatio_ne_nan _ _ _ _ _⟩
  · rw [← h3, own_nonneg (by rw [h3]; exact h)]
  · show zval b64 (val64 (dadd x y)) = _
    rw [v, own_zmag_sign false sg]
    cases sg
    · exact own_zval_nonneg (sgn_roundRatio _ _ _ _ _)
    · have z : n * 2 ^ (e - b64.qmin).toNat = 0 := by
        have k : 0 ≤ signed true (inUnits n e b64.qmin) := by rw [h3]; exact h
        simp only [signed, if_true, inUnits] at k
        omega
      have n0 : n = 0 := by
        rcases Nat.mul_eq_zero.mp z with k | k
        · exact k
        · have := Nat.two_pow_pos (e - b64.qmin).toNat; omega
      have k := own_rr0 true 1 e
      rw [n0, k]
      unfold zval at k
      rw [signed_eq_zero] at k
      rw [k]; rfl
theorem own_dadd_mono {x y x' y' : UInt64} (hx : DFin x) (hy : DFin y) (hx' : DFin x') (hy' : DFin y') (h0 : 0 ≤ own_z x + own_z y) (h : own_z x + own_z y ≤ own_z x' + own_z y') : own_z (dadd x y) ≤ own_z (dadd x' y') := by
  obtain ⟨n, e, h1, h2, h3, -⟩ := own_sum_rr hx hy h0
  obtain ⟨n', e', h1', h2', h3', -⟩ := own_sum_rr hx' hy' (Int.le_trans h0 h)
  rw [h3, h3']
  have hq := qmin_b64
  refine Int.ofNat_le.mpr (own_rr_mono (e0 := -2000) (by decide) (by decide) (by omega) (by omega) (by omega) ?_)
  rw [inUnits_move n (r := b64.qmin) (by omega) h1, inUnits_move n' (r := b64.qmin) (by omega) h1', Nat.mul_one, Nat.mul_one]
  refine Nat.mul_le_mul_right _ (Int.ofNat_le.mp ?_)
  rw [h2, h2']; exact h
theorem own_dadd_le {x y w : UInt64} (hx : DFin x) (hy : DFin y) (hw : val64 w ≠ .nan) (h : own_z x + own_z y ≤ own_z w) : own_z (dadd x y) ≤ own_z w := by
  show zval b64 (val64 (dadd x y)) ≤ _
  rw [val64_dadd]
  exact sum_le good_b64 hx hy (val64_fits x) (val64_fits y) (val64_fits w) hw h
theorem own_dadd_ge {x y w : UInt64} (hx : DFin x) (hy : DFin y) (hw : val64 w ≠ .nan) (h : own_z w ≤ own_z x + own_z y) : own_z w ≤ own_z (dadd x y) := by
  show _ ≤ zval b64 (val64 (dadd x y))
  rw [val64_dadd]
  exact sum_ge good_b64 hx hy (val64_fits x) (val64_fits y) (val64_fits w) hw h
theorem own_fin_le {x w : UInt64} (hn : val64 x ≠ .nan) (h0 : 0 ≤ own_z x) (hw : DFin w) (h : own_z x ≤ own_z w) : DFin x := by
  cases hv : val64 x with
  | nan => exact absurd hv hn
  | inf s =>
    exfalso
    obtain ⟨t, c, q, ew⟩ := hw
    have fw : Jvm.FP.Core.fits b64 (.fin t c q) := ew ▸ val64_fits w
    have l := zmag_lt_top good_b64 fw
    have ex : own_z x = signed s (b64.tails * 2 ^ (b64.exps - 2)) := by unfold own_z; rw [hv]; rfl
    have e2 : own_z w = signed t (zmag b64 (.fin t c q)) := by unfold own_z; rw [ew]; rfl
    rw [ex] at h0 h
    rw [own_nonneg h0] at h
    have p : 0 ≤ own_z w := Int.le_trans (Int.natCast_nonneg _) h
    rw [e2] at p h
    rw [own_nonneg p] at h
    exact absurd (Int.ofNat_le.mp h) (Nat.not_le.mpr l)
  | fin s c q => exact ⟨s, c, q, hv⟩
/-- a greater divisor, no greater quotient -/
theorem own_div_anti {x y y' : UInt64} (hx : DFin x) (hy : DFin y) (hy' : DFin y') (px : 0 ≤ own_z x) (py : 0 < own_z y) (h : own_z y ≤ own_z y') : own_z (ddiv x y') ≤ own_z (ddiv x y) := by
  obtain ⟨c, d, q, r, q1, q2, q3, q4, d0, zx, zy, -, s, zq⟩ := own_div_mag hx hy px py
  obtain ⟨c', d', q', r', q1', q2', q3', q4', d0', zx', zy', -, s', zq'⟩ := own_div_mag hx hy' px (Int.lt_of_lt_of_le py h)
  have hq := qmin_b64
  have hm : b64.qmax = 971 := by decide
  rw [zq, zq', own_zmag_sign s' s]
  refine Int.ofNat_le.mpr (own_rr_mono (e0 := -6000) d0' d0 (by omega) (by omega) (by omega) ?_)
  have ec : c' * 2 ^ (q' - b64.qmin).toNat = c * 2 ^ (q - b64.qmin).toNat := Int.natCast_inj.mp (zx'.symm.trans zx)
  have ed : d * 2 ^ (r - b64.qmin).toNat ≤ d' * 2 ^ (r' - b64.qmin).toNat := by rw [zy, zy'] at h; exact Int.ofNat_le.mp h
  unfold inUnits
  have hN : c' * 2 ^ (q' - b64.qmin).toNat * (d * 2 ^ (r - b64.qmin).toNat) ≤ c * 2 ^ (q - b64.qmin).toNat * (d' * 2 ^ (r' - b64.qmin).toNat) := by
    rw [ec]; exact Nat.mul_le_mul_left _ ed
  have hP : c' * d * 2 ^ ((q' - b64.qmin).toNat + (r - b64.qmin).toNat) ≤ c * d' * 2 ^ ((q - b64.qmin).toNat + (r' - b64.qmin).toNat) := by
    rw [Nat.pow_add, Nat.pow_add]
    calc c' * d * (2 ^ (q' - b64.qmin).toNat * 2 ^ (r - b64.qmin).toNat) = c' * 2 ^ (q' - b64.qmin).toNat * (d * 2 ^ (r - b64.qmin).toNat) := by ac_rfl
      _ ≤ c * 2 ^ (q - b64.qmin).toNat * (d' * 2 ^ (r' - b64.qmin).toNat) := hN
      _ = c * d' * (2 ^ (q - b64.qmin).toNat * 2 ^ (r' - b64.qmin).toNat) := by ac_rfl
  have hC : c' * d * 2 ^ (q' - r' - (-6000)).toNat ≤ c * d' * 2 ^ (q - r - (-6000)).toNat := own_pow_shift_le hP (by omega)
  calc c' * 2 ^ (q' - r' - (-6000)).toNat * d = c' * d * 2 ^ (q' - r' - (-6000)).toNat := by ac_rfl
    _ ≤ c * d' * 2 ^ (q - r - (-6000)).toNat := hC
    _ = c * 2 ^ (q - r - (-6000)).toNat * d' := by ac_rfl
end Jvm.OwnFl
namespace Jvm.OwnFl
open Jvm.FP.Core
/-- a quotient of two numbers n/2^k, m/2^k is finite and at least nought -/
theorem own_is.div_fin {x y : UInt64} {n m : Int} {k : Nat} (hx : own_is x n k) (hy : own_is y m k) (pn : 0 ≤ n) (pm : 0 < m) {w : UInt64} {b : Int} (hw : own_is w b 0) (hb : 0 ≤ b) (hn : n ≤ b * m) : val64 (ddiv x y) ≠ .nan ∧ 0 ≤ own_z (ddiv x y) ∧ DFin (ddiv x y) := by
  obtain ⟨h1, h2⟩ := own_div_nonneg hx.1 hy.1 (hx.nonneg pn) (hy.pos pm)
  refine ⟨h1, h2, own_fin_le h1 h2 hw.1 (own_div_le hx.1 hy.1 (hx.nonneg pn) (hy.pos pm) hw.val (hw.nonneg hb) ?_)⟩
  refine Int.le_of_mul_le_mul_right ?_ (own_two_pos k)
  have e1 : own_z x * (own_U : Int) * ((2 ^ k : Nat) : Int) = n * ((own_U : Int) * (own_U : Int)) := by
    calc own_z x * (own_U : Int) * ((2 ^ k : Nat) : Int) = (own_z x * ((2 ^ k : Nat) : Int)) * (own_U : Int) := by ac_rfl
      _ = n * ((own_U : Int) * (own_U : Int)) := by rw [hx.2]; ac_rfl
  have e2 : own_z w * own_z y * ((2 ^ k : Nat) : Int) = b * m * ((own_U : Int) * (own_U : Int)) := by
    calc own_z w * own_z y * ((2 ^ k : Nat) : Int) = own_z w * (own_z y * ((2 ^ k : Nat) : Int)) := by ac_rfl
      _ = b * m * ((own_U : Int) * (own_U : Int)) := by rw [hy.2, hw.z]; ac_rfl
  rw [e1, e2]
  exact Int.mul_le_mul_of_nonneg_right hn (Int.le_of_lt (Int.mul_pos own_U_pos own_U_pos))
/-- quotients of like ratios round alike -/
theorem own_is.div_same {x y x' y' : UInt64} {n m n' m' : Int} {k j : Nat} (hx : own_is x n k) (hy : own_is y m k) (hx' : own_is x' n' j) (hy' : own_is y' m' j) (pn : 0 ≤ n) (pm : 0 < m) (pn' : 0 ≤ n') (pm' : 0 < m') (h : n * m' = n' * m) : own_z (ddiv x y) = own_z (ddiv x' y') := by
  refine own_div_congr hx.1 hy.1 hx'.1 hy'.1 (hx.nonneg pn) (hy.pos pm) (hx'.nonneg pn') (hy'.pos pm') ?_
  refine Int.eq_of_mul_eq_mul_right (Int.ne_of_gt (Int.mul_pos (own_two_pos k) (own_two_pos j))) ?_
  calc own_z x * own_z y' * (((2 ^ k : Nat) : Int) * ((2 ^ j : Nat) : Int)) = (own_z x * ((2 ^ k : Nat) : Int)) * (own_z y' * ((2 ^ j : Nat) : Int)) := by ac_rfl
    _ = (n * m') * ((own_U : Int) * (own_U : Int)) := by rw [hx.2, hy'.2]; ac_rfl
    _ = (n' * m) * ((own_U : Int) * (own_U : Int)) := by rw [h]
    _ = (own_z x' * ((2 ^ j : Nat) : Int)) * (own_z y * ((2 ^ k : Nat) : Int)) := by rw [hx'.2, hy.2]; ac_rfl
    _ = own_z x' * own_z y * (((2 ^ k : Nat) : Int) * ((2 ^ j : Nat) : Int)) := by ac_rfl
/-- sums of like parts round alike -/
theorem own_dadd_same {x y x' y' : UInt64} (hx : DFin x) (hy : DFin y) (hx' : DFin x') (hy' : DFin y') (h0 : 0 ≤ own_z x + own_z y) (h1 : own_z x = own_z x') (h2 : own_z y = own_z y') : own_z (dadd x y) = own_z (dadd x' y') :=
  Int.le_antisymm (own_dadd_mono hx hy hx' hy' h0 (by rw [h1, h2]; exact Int.le_refl _)) (own_dadd_mono hx' hy' hx hy (by rw [← h1, ← h2]; exact h0) (by rw [h1, h2]; exact Int.le_refl _))
theorem own_dadd_nn {x y : UInt64} (hx : DFin x) (hy : DFin y) (h0 : 0 ≤ own_z x + own_z y) : val64 (dadd x y) ≠ .nan := by
  obtain ⟨_, _, _, _, _, h⟩ := own_sum_rr hx hy h0
  exact h
/-- what is finite and not below nought, divided by the infinity, is nought -/
theorem own_div_inf {x y : UInt64} (hx : DFin x) (hy : val64 y = .inf false) : own_is (ddiv x y) 0 0 := by
  obtain ⟨s, c, q, e⟩ := hx
  have hv : val64 (ddiv x y) = .fin (s != false) 0 b64.qmin := by
    rw [val64_ddiv, e, hy]; rfl
  refine ⟨⟨_, _, _, hv⟩, ?_⟩
  rw [own_zv hv, Nat.zero_mul, signed_zero, Int.zero_mul, Int.zero_mul]
end Jvm.OwnFl
namespace Jvm.Pilot.@@N@@
open Jvm Jvm.ClassFile Sem Op Lib Jvm.Free Jvm.Stand Jvm.LawKit Jvm.RoadKit Bundle Jvm.Free.Fl Jvm.OwnFl Jvm.Pilot.@@N@@.Jvm.D
theorem own_hw {a0 : Array Value} {Z : State} (hw : ∀ d ∈ tables_1, d.before a0 Z = true) (i : Nat) {d : Jvm.Cond} (h : tables_1[i]? = some d) : d.before a0 Z = true := hw d (List.mem_of_getElem? h)
section OwnKit
variable {p : Program} {l : Launch} {e : Env} {R : Room} {s : State} {m : MethodId} {args : Array Value} {below : List Frame} {meth : Method} {c : Code} {T : State} {locs : List Loc} {cells slots : Nat}
/-- from the state t the run goes on to a return of which Q holds -/
def own_Go (p : Program) (e : Env) (below : List Frame) (Fe : Outcome → State → List Loc → Prop) (Q : Option Value → Heap → List Loc → Prop) (t : State) : Prop :=
  ∃ s₂ o, Steps p.tables e below t s₂ ∧ s₂.status = .running ∧ Ended s₂ below o ∧ ∃ v L, o = .returned v ∧ Q v s₂.heap L ∧ Fe o s₂ L
theorem own_st {Fe : Outcome → State → List Loc → Prop} {Q : Option Value → Heap → List Loc → Prop} {t t' : State} (h : ∀ target, Steps p.tables e below t' target → Steps p.tables e below t target) (k : own_Go p e below Fe Q t') : own_Go p e below Fe Q t := by
  obtain ⟨s₂, o, h1, r⟩ := k
  exact ⟨s₂, o, h _ h1, r⟩
theorem own_tr {Fe : Outcome → State → List Loc → Prop} {Q : Option Value → Heap → List Loc → Prop} {t t' : State} (h : Steps p.tables e below t t') (k : own_Go p e below Fe Q t') : own_Go p e below Fe Q t := own_st (fun _ q => h.trans q) k
theorem own_ret (X : Stand p l e R s m args below meth c T locs cells slots) {K N : Nat} {Q : Option Value → Heap → List Loc → Prop} {t : State} (v : Option Value) (hv : meth.sig.returnType = none → v = none) (hlocks : meth.locks = false) (hK : cells ≤ K) (hN : slots ≤ N) (hQ : Q v T.heap locs)
    (hs : ∀ fs : List Frame, (∀ (f : JFrame) (acts : List Action), f.method = m → f.locked = none → f.entered = [] → (doReturn e (T.setTop f) acts v).1 = T.setFrames fs) → Steps p.tables e below t (T.setFrames fs)) : own_Go p e below (fun o u L => FrameEnd s o u L K N) Q t := by
  obtain ⟨fs, hr, hrun, hended, hW, hsame⟩ := X.leave (v := v) hv
  exact ⟨_, _, hs fs hr, hrun, hended, _, _, rfl, hQ, ⟨_, rfl⟩, hW, hsame.mono hK hN⟩
theorem own_retI (X : Stand p l e R s m args below meth c T locs cells slots) (hx : p.tables.exec = Jvm.exec) {pc : Nat} {Ls : Array Slot} {z : Int32} {rest : List Value} (hret : meth.sig.returnType = some .int) (hd : decode c.code pc = .ok (.ireturn, 1)) {fs : List Frame}
    (hl : ∀ (f : JFrame) (acts : List Action), f.method = m → f.locked = none → f.entered = [] → (doReturn e (T.setTop f) acts (some (.int z))).1 = T.setFrames fs) : Steps p.tables e below (T.setTop (mkF m pc Ls (.int z :: rest))) (T.setFrames fs) :=
  retOut X hx hret rfl (Or.inl ⟨rfl, Or.inl rfl, _, rfl⟩) hd hl
theorem own_retD (X : Stand p l e R s m args below meth c T locs cells slots) (hx : p.tables.exec = Jvm.exec) {pc : Nat} {Ls : Array Slot} {z : UInt64} {rest : List Value} (hret : meth.sig.returnType = some .double) (hd : decode c.code pc = .ok (.dreturn, 1)) {fs : List Frame}
    (hl : ∀ (f : JFrame) (acts : List Action), f.method = m → f.locked = none → f.entered = [] → (doReturn e (T.setTop f) acts (some (.double z))).1 = T.setFrames fs) : Steps p.tables e below (T.setTop (mkF m pc Ls (.double z :: rest))) (T.setFrames fs) :=
  retOut X hx hret rfl (Or.inr (Or.inr (Or.inl ⟨rfl, rfl, _, rfl⟩))) hd hl
theorem own_retJ (X : Stand p l e R s m args below meth c T locs cells slots) (hx : p.tables.exec = Jvm.exec) {pc : Nat} {Ls : Array Slot} {z : Int64} {rest : List Value} (hret : meth.sig.returnType = some .long) (hd : decode c.code pc = .ok (.lreturn, 1)) {fs : List Frame}
    (hl : ∀ (f : JFrame) (acts : List Action), f.method = m → f.locked = none → f.entered = [] → (doReturn e (T.setTop f) acts (some (.long z))).1 = T.setFrames fs) : Steps p.tables e below (T.setTop (mkF m pc Ls (.long z :: rest))) (T.setFrames fs) :=
  retOut X hx hret rfl (Or.inr (Or.inl ⟨rfl, rfl, _, rfl⟩)) hd hl
theorem own_retR (X : Stand p l e R s m args below meth c T locs cells slots) (hx : p.tables.exec = Jvm.exec) {pc : Nat} {Ls : Array Slot} {w : Value} {rest : List Value} {t : FieldType} (hret : meth.sig.returnType = some t) (ht : t.isReference = true) (hw : w.isRef = true) (hd : decode c.code pc = .ok (.areturn, 1)) {fs : List Frame}
    (hl : ∀ (f : JFrame) (acts : List Action), f.method = m → f.locked = none → f.entered = [] → (doReturn e (T.setTop f) acts (some w)).1 = T.setFrames fs) : Steps p.tables e below (T.setTop (mkF m pc Ls (w :: rest))) (T.setFrames fs) :=
  retOut X hx hret (by cases t <;> first | (cases ht; done) | rfl) (Or.inr (Or.inr (Or.inr (Or.inr ⟨rfl, ht, hw⟩)))) hd hl
theorem own_staKeep {Z : State} {h h' : Heap} {C n d : String} {v : Value} {ws : List Addr} (F : Sta Z h C n d v) (K : Keep h h' ws) (hn : ∀ x ∈ ws, ∀ cell : Cell, h[x]? = some cell → cell.vm.isStatics = false) : Sta Z h' C n d v := by
  obtain ⟨cf, i, k, f, st, cell, h1, h2, h3, h4, h5, h6, h7⟩ := F
  exact ⟨cf, i, k, f, st, cell, h1, h2, h3, h4, K.2.1 st cell h5 (fun q => by have := hn st q cell h5; rw [h6] at this; cases this), h6, h7⟩
end OwnKit
section OwnSteps
variable {p : Program} {l : Launch} {e : Env} {R : Room} {s : State} {m : MethodId} {args : Array Value} {below : List Frame} {meth : Method} {c : Code} {T : State} {locs : List Loc} {cells slots : Nat} {Fe : Outcome → State → List Loc → Prop} {Q : Option Value → Heap → List Loc → Prop} {pc : Nat} {Ls : Array Slot} {st : List Value} {Z : State} {a0 : Array Value} {h : Heap}
theorem own_iload (X : Stand p l e R s m args below meth c T locs cells slots) (hx : p.tables.exec = Jvm.exec) {i : Nat} {v : Int32} (pc' : Nat) (hp : pc + 2 = pc') (hd : decode c.code pc = .ok (.iload i, 2)) (hl : Ls[i]? = some (.val (.int v))) (k : own_Go p e below Fe Q (T.setTop (mkF m pc' Ls (.int v :: st)))) : own_Go p e below Fe Q (T.setTop (mkF m pc Ls (st))) := by
  subst hp
  exact own_st (fun _ hr => XS.iload X.here hx rfl hd hl hr) k
theorem own_iloadN (X : Stand p l e R s m args below meth c T locs cells slots) (hx : p.tables.exec = Jvm.exec) {i : Fin 4} {v : Int32} (pc' : Nat) (hp : pc + 1 = pc') (hd : decode c.code pc = .ok (.iload_n i, 1)) (hl : Ls[i.val]? = some (.val (.int v))) (k : own_Go p e below Fe Q (T.setTop (mkF m pc' Ls (.int v :: st)))) : own_Go p e below Fe Q (T.setTop (mkF m pc Ls (st))) := by
  subst hp
  exact own_st (fun _ hr => XS.iloadN X.here hx rfl hd hl hr) k
theorem own_istore (X : Stand p l e R s m args below meth c T locs cells slots) (hx : p.tables.exec = Jvm.exec) {i : Nat} {x : Int32} (pc' : Nat) (hp : pc + 2 = pc') (hd : decode c.code pc = .ok (.istore i, 2)) (Ls' : Array Slot) (hl : storeLocals Ls i (.int x) = some Ls') (k : own_Go p e below Fe Q (T.setTop (mkF m pc' Ls' (st)))) : own_Go p e below Fe Q (T.setTop (mkF m pc Ls (.int x :: st))) := by
  subst hp
  exact own_st (fun _ hr => XS.istore X.here hx rfl hd rfl hl hr) k
theorem own_istoreN (X : Stand p l e R s m args below meth c T locs cells slots) (hx : p.tables.exec = Jvm.exec) {i : Fin 4} {x : Int32} (pc' : Nat) (hp : pc + 1 = pc') (hd : decode c.code pc = .ok (.istore_n i, 1)) (Ls' : Array Slot) (hl : storeLocals Ls i.val (.int x) = some Ls') (k : own_Go p e below Fe Q (T.setTop (mkF m pc' Ls' (st)))) : own_Go p e below Fe Q (T.setTop (mkF m pc Ls (.int x :: st))) := by
  subst hp
  exact own_st (fun _ hr => XS.istoreN X.here hx rfl hd rfl hl hr) k
theorem own_lload (X : Stand p l e R s m args below meth c T locs cells slots) (hx : p.tables.exec = Jvm.exec) {i : Nat} {v : Int64} (pc' : Nat) (hp : pc + 2 = pc') (hd : decode c.code pc = .ok (.lload i, 2)) (hl : Ls[i]? = some (.val (.long v))) (k : own_Go p e below Fe Q (T.setTop (mkF m pc' Ls (.long v :: st)))) : own_Go p e below Fe Q (T.setTop (mkF m pc Ls (st))) := by
  subst hp
  exact own_st (fun _ hr => XS.lload X.here hx rfl hd hl hr) k
theorem own_lloadN (X : Stand p l e R s m args below meth c T locs cells slots) (hx : p.tables.exec = Jvm.exec) {i : Fin 4} {v : Int64} (pc' : Nat) (hp : pc + 1 = pc') (hd : decode c.code pc = .ok (.lload_n i, 1)) (hl : Ls[i.val]? = some (.val (.long v))) (k : own_Go p e below Fe Q (T.setTop (mkF m pc' Ls (.long v :: st)))) : own_Go p e below Fe Q (T.setTop (mkF m pc Ls (st))) := by
  subst hp
  exact own_st (fun _ hr => XS.lloadN X.here hx rfl hd hl hr) k
theorem own_lstore (X : Stand p l e R s m args below meth c T locs cells slots) (hx : p.tables.exec = Jvm.exec) {i : Nat} {x : Int64} (pc' : Nat) (hp : pc + 2 = pc') (hd : decode c.code pc = .ok (.lstore i, 2)) (Ls' : Array Slot) (hl : storeLocals Ls i (.long x) = some Ls') (k : own_Go p e below Fe Q (T.setTop (mkF m pc' Ls' (st)))) : own_Go p e below Fe Q (T.setTop (mkF m pc Ls (.long x :: st))) := by
  subst hp
  exact own_st (fun _ hr => XS.lstore X.here hx rfl hd rfl hl hr) k
theorem own_lstoreN (X : Stand p l e R s m args below meth c T locs cells slots) (hx : p.tables.exec = Jvm.exec) {i : Fin 4} {x : Int64} (pc' : Nat) (hp : pc + 1 = pc') (hd : decode c.code pc = .ok (.lstore_n i, 1)) (Ls' : Array Slot) (hl : storeLocals Ls i.val (.long x) = some Ls') (k : own_Go p e below Fe Q (T.setTop (mkF m pc' Ls' (st)))) : own_Go p e below Fe Q (T.setTop (mkF m pc Ls (.long x :: st))) := by
  subst hp
  exact own_st (fun _ hr => XS.lstoreN X.here hx rfl hd rfl hl hr) k
theorem own_dload (X : Stand p l e R s m args below meth c T locs cells slots) (hx : p.tables.exec = Jvm.exec) {i : Nat} {v : UInt64} (pc' : Nat) (hp : pc + 2 = pc') (hd : decode c.code pc = .ok (.dload i, 2)) (hl : Ls[i]? = some (.val (.double v))) (k : own_Go p e below Fe Q (T.setTop (mkF m pc' Ls (.double v :: st)))) : own_Go p e below Fe Q (T.setTop (mkF m pc Ls (st))) := by
  subst hp
  exact own_st (fun _ hr => XS.dload X.here hx rfl hd hl hr) k
theorem own_dloadN (X : Stand p l e R s m args below meth c T locs cells slots) (hx : p.tables.exec = Jvm.exec) {i : Fin 4} {v : UInt64} (pc' : Nat) (hp : pc + 1 = pc') (hd : decode c.code pc = .ok (.dload_n i, 1)) (hl : Ls[i.val]? = some (.val (.double v))) (k : own_Go p e below Fe Q (T.setTop (mkF m pc' Ls (.double v :: st)))) : own_Go p e below Fe Q (T.setTop (mkF m pc Ls (st))) := by
  subst hp
  exact own_st (fun _ hr => XS.dloadN X.here hx rfl hd hl hr) k
theorem own_dstore (X : Stand p l e R s m args below meth c T locs cells slots) (hx : p.tables.exec = Jvm.exec) {i : Nat} {x : UInt64} (pc' : Nat) (hp : pc + 2 = pc') (hd : decode c.code pc = .ok (.dstore i, 2)) (Ls' : Array Slot) (hl : storeLocals Ls i (.double x) = some Ls') (k : own_Go p e below Fe Q (T.setTop (mkF m pc' Ls' (st)))) : own_Go p e below Fe Q (T.setTop (mkF m pc Ls (.double x :: st))) := by
  subst hp
  exact own_st (fun _ hr => XS.dstore X.here hx rfl hd rfl hl hr) k
theorem own_dstoreN (X : Stand p l e R s m args below meth c T locs cells slots) (hx : p.tables.exec = Jvm.exec) {i : Fin 4} {x : UInt64} (pc' : Nat) (hp : pc + 1 = pc') (hd : decode c.code pc = .ok (.dstore_n i, 1)) (Ls' : Array Slot) (hl : storeLocals Ls i.val (.double x) = some Ls') (k : own_Go p e below Fe Q (T.setTop (mkF m pc' Ls' (st)))) : own_Go p e below Fe Q (T.setTop (mkF m pc Ls (.double x :: st))) := by
  subst hp
  exact own_st (fun _ hr => XS.dstoreN X.here hx rfl hd rfl hl hr) k
theorem own_aload (X : Stand p l e R s m args below meth c T locs cells slots) (hx : p.tables.exec = Jvm.exec) {i : Nat} {v : Value} (pc' : Nat) (hp : pc + 2 = pc') (hd : decode c.code pc = .ok (.aload i, 2)) (hl : Ls[i]? = some (.val v)) (hv : v.isRef = true) (k : own_Go p e below Fe Q (T.setTop (mkF m pc' Ls (v :: st)))) : own_Go p e below Fe Q (T.setTop (mkF m pc Ls (st))) := by
  subst hp
  exact own_st (fun _ hr => XS.aload X.here hx rfl hd hl hv hr) k
theorem own_aloadN (X : Stand p l e R s m args below meth c T locs cells slots) (hx : p.tables.exec = Jvm.exec) {i : Fin 4} {v : Value} (pc' : Nat) (hp : pc + 1 = pc') (hd : decode c.code pc = .ok (.aload_n i, 1)) (hl : Ls[i.val]? = some (.val v)) (hv : v.isRef = true) (k : own_Go p e below Fe Q (T.setTop (mkF m pc' Ls (v :: st)))) : own_Go p e below Fe Q (T.setTop (mkF m pc Ls (st))) := by
  subst hp
  exact own_st (fun _ hr => XS.aloadN X.here hx rfl hd hl hv hr) k
theorem own_astore (X : Stand p l e R s m args below meth c T locs cells slots) (hx : p.tables.exec = Jvm.exec) {i : Nat} {x : Value} (pc' : Nat) (hp : pc + 2 = pc') (hd : decode c.code pc = .ok (.astore i, 2)) (hv : x.isRef = true) (Ls' : Array Slot) (hl : storeLocals Ls i x = some Ls') (k : own_Go p e below Fe Q (T.setTop (mkF m pc' Ls' (st)))) : own_Go p e below Fe Q (T.setTop (mkF m pc Ls (x :: st))) := by
  subst hp
  exact own_st (fun _ hr => XS.astore X.here hx rfl hd rfl hv hl hr) k
theorem own_astoreN (X : Stand p l e R s m args below meth c T locs cells slots) (hx : p.tables.exec = Jvm.exec) {i : Fin 4} {x : Value} (pc' : Nat) (hp : pc + 1 = pc') (hd : decode c.code pc = .ok (.astore_n i, 1)) (hv : x.isRef = true) (Ls' : Array Slot) (hl : storeLocals Ls i.val x = some Ls') (k : own_Go p e below Fe Q (T.setTop (mkF m pc' Ls' (st)))) : own_Go p e below Fe Q (T.setTop (mkF m pc Ls (x :: st))) := by
  subst hp
  exact own_st (fun _ hr => XS.astoreN X.here hx rfl hd rfl hv hl hr) k
theorem own_iconst (X : Stand p l e R s m args below meth c T locs cells slots) (hx : p.tables.exec = Jvm.exec) {i : Int} (pc' : Nat) (hp : pc + 1 = pc') (hd : decode c.code pc = .ok (.iconst i, 1)) (z : Int32) (hz : Int32.ofInt i = z) (k : own_Go p e below Fe Q (T.setTop (mkF m pc' Ls (.int z :: st)))) : own_Go p e below Fe Q (T.setTop (mkF m pc Ls (st))) := by
  subst hp; subst hz
  exact own_st (fun _ hr => XS.iconst X.here hx rfl hd hr) k
theorem own_bipush (X : Stand p l e R s m args below meth c T locs cells slots) (hx : p.tables.exec = Jvm.exec) {i : Int} (pc' : Nat) (hp : pc + 2 = pc') (hd : decode c.code pc = .ok (.bipush i, 2)) (z : Int32) (hz : (Int8.ofInt i).toInt32 = z) (k : own_Go p e below Fe Q (T.setTop (mkF m pc' Ls (.int z :: st)))) : own_Go p e below Fe Q (T.setTop (mkF m pc Ls (st))) := by
  subst hp; subst hz
  exact own_st (fun _ hr => XS.bipush X.here hx rfl hd hr) k
theorem own_sipush (X : Stand p l e R s m args below meth c T locs cells slots) (hx : p.tables.exec = Jvm.exec) {i : Int} (pc' : Nat) (hp : pc + 3 = pc') (hd : decode c.code pc = .ok (.sipush i, 3)) (z : Int32) (hz : (Int16.ofInt i).toInt32 = z) (k : own_Go p e below Fe Q (T.setTop (mkF m pc' Ls (.int z :: st)))) : own_Go p e below Fe Q (T.setTop (mkF m pc Ls (st))) := by
  subst hp; subst hz
  exact own_st (fun _ hr => XS.sipush X.here hx rfl hd hr) k
theorem own_lconst (X : Stand p l e R s m args below meth c T locs cells slots) (hx : p.tables.exec = Jvm.exec) {i : Fin 2} (pc' : Nat) (hp : pc + 1 = pc') (hd : decode c.code pc = .ok (.lconst i, 1)) (z : Int64) (hz : Int64.ofNat i = z) (k : own_Go p e below Fe Q (T.setTop (mkF m pc' Ls (.long z :: st)))) : own_Go p e below Fe Q (T.setTop (mkF m pc Ls (st))) := by
  subst hp; subst hz
  exact own_st (fun _ hr => XS.lconst X.here hx rfl hd hr) k
theorem own_dconst0 (X : Stand p l e R s m args below meth c T locs cells slots) (hx : p.tables.exec = Jvm.exec)  (pc' : Nat) (hp : pc + 1 = pc') (hd : decode c.code pc = .ok (.dconst 0, 1))  (k : own_Go p e below Fe Q (T.setTop (mkF m pc' Ls (.double FP.dconst0 :: st)))) : own_Go p e below Fe Q (T.setTop (mkF m pc Ls (st))) := by
  subst hp
  exact own_st (fun _ hr => XS.dconst0 X.here hx rfl hd rfl hr) k
theorem own_dconst1 (X : Stand p l e R s m args below meth c T locs cells slots) (hx : p.tables.exec = Jvm.exec)  (pc' : Nat) (hp : pc + 1 = pc') (hd : decode c.code pc = .ok (.dconst 1, 1))  (k : own_Go p e below Fe Q (T.setTop (mkF m pc' Ls (.double FP.dconst1 :: st)))) : own_Go p e below Fe Q (T.setTop (mkF m pc Ls (st))) := by
  subst hp
  exact own_st (fun _ hr => XS.dconst1 X.here hx rfl hd rfl hr) k
theorem own_aconst_null (X : Stand p l e R s m args below meth c T locs cells slots) (hx : p.tables.exec = Jvm.exec)  (pc' : Nat) (hp : pc + 1 = pc') (hd : decode c.code pc = .ok (.aconst_null, 1))  (k : own_Go p e below Fe Q (T.setTop (mkF m pc' Ls (.null :: st)))) : own_Go p e below Fe Q (T.setTop (mkF m pc Ls (st))) := by
  subst hp
  exact own_st (fun _ hr => XS.aconstNull X.here hx rfl hd hr) k
theorem own_iadd (X : Stand p l e R s m args below meth c T locs cells slots) (hx : p.tables.exec = Jvm.exec) {x y : Int32} (pc' : Nat) (hp : pc + 1 = pc') (hd : decode c.code pc = .ok (.iadd, 1)) (z : Int32) (hz : x + y = z) (k : own_Go p e below Fe Q (T.setTop (mkF m pc' Ls (.int z :: st)))) : own_Go p e below Fe Q (T.setTop (mkF m pc Ls (.int y :: .int x :: st))) := by
  subst hp; subst hz
  exact own_st (fun _ hr => XS.iadd X.here hx rfl hd rfl hr) k
theorem own_isub (X : Stand p l e R s m args below meth c T locs cells slots) (hx : p.tables.exec = Jvm.exec) {x y : Int32} (pc' : Nat) (hp : pc + 1 = pc') (hd : decode c.code pc = .ok (.isub, 1)) (z : Int32) (hz : x - y = z) (k : own_Go p e below Fe Q (T.setTop (mkF m pc' Ls (.int z :: st)))) : own_Go p e below Fe Q (T.setTop (mkF m pc Ls (.int y :: .int x :: st))) := by
  subst hp; subst hz
  exact own_st (fun _ hr => XS.isub X.here hx rfl hd rfl hr) k
theorem own_imul (X : Stand p l e R s m args below meth c T locs cells slots) (hx : p.tables.exec = Jvm.exec) {x y : Int32} (pc' : Nat) (hp : pc + 1 = pc') (hd : decode c.code pc = .ok (.imul, 1)) (z : Int32) (hz : x * y = z) (k : own_Go p e below Fe Q (T.setTop (mkF m pc' Ls (.int z :: st)))) : own_Go p e below Fe Q (T.setTop (mkF m pc Ls (.int y :: .int x :: st))) := by
  subst hp; subst hz
  exact own_st (fun _ hr => XS.imul X.here hx rfl hd rfl hr) k
theorem own_iand (X : Stand p l e R s m args below meth c T locs cells slots) (hx : p.tables.exec = Jvm.exec) {x y : Int32} (pc' : Nat) (hp : pc + 1 = pc') (hd : decode c.code pc = .ok (.iand, 1)) (z : Int32) (hz : x &&& y = z) (k : own_Go p e below Fe Q (T.setTop (mkF m pc' Ls (.int z :: st)))) : own_Go p e below Fe Q (T.setTop (mkF m pc Ls (.int y :: .int x :: st))) := by
  subst hp; subst hz
  exact own_st (fun _ hr => XS.iand X.here hx rfl hd rfl hr) k
theorem own_ior (X : Stand p l e R s m args below meth c T locs cells slots) (hx : p.tables.exec = Jvm.exec) {x y : Int32} (pc' : Nat) (hp : pc + 1 = pc') (hd : decode c.code pc = .ok (.ior, 1)) (z : Int32) (hz : x ||| y = z) (k : own_Go p e below Fe Q (T.setTop (mkF m pc' Ls (.int z :: st)))) : own_Go p e below Fe Q (T.setTop (mkF m pc Ls (.int y :: .int x :: st))) := by
  subst hp; subst hz
  exact own_st (fun _ hr => XS.ior X.here hx rfl hd rfl hr) k
theorem own_ixor (X : Stand p l e R s m args below meth c T locs cells slots) (hx : p.tables.exec = Jvm.exec) {x y : Int32} (pc' : Nat) (hp : pc + 1 = pc') (hd : decode c.code pc = .ok (.ixor, 1)) (z : Int32) (hz : x ^^^ y = z) (k : own_Go p e below Fe Q (T.setTop (mkF m pc' Ls (.int z :: st)))) : own_Go p e below Fe Q (T.setTop (mkF m pc Ls (.int y :: .int x :: st))) := by
  subst hp; subst hz
  exact own_st (fun _ hr => XS.ixor X.here hx rfl hd rfl hr) k
theorem own_ineg (X : Stand p l e R s m args below meth c T locs cells slots) (hx : p.tables.exec = Jvm.exec) {x : Int32} (pc' : Nat) (hp : pc + 1 = pc') (hd : decode c.code pc = .ok (.ineg, 1)) (z : Int32) (hz : -x = z) (k : own_Go p e below Fe Q (T.setTop (mkF m pc' Ls (.int z :: st)))) : own_Go p e below Fe Q (T.setTop (mkF m pc Ls (.int x :: st))) := by
  subst hp; subst hz
  exact own_st (fun _ hr => XS.ineg X.here hx rfl hd rfl hr) k
theorem own_idiv (X : Stand p l e R s m args below meth c T locs cells slots) (hx : p.tables.exec = Jvm.exec) {x y : Int32} (pc' : Nat) (hp : pc + 1 = pc') (hd : decode c.code pc = .ok (.idiv, 1)) (hy : y ≠ 0) (z : Int32) (hz : x / y = z) (k : own_Go p e below Fe Q (T.setTop (mkF m pc' Ls (.int z :: st)))) : own_Go p e below Fe Q (T.setTop (mkF m pc Ls (.int y :: .int x :: st))) := by
  subst hp; subst hz
  exact own_st (fun _ hr => XS.idiv X.here hx rfl hd rfl hy hr) k
theorem own_ladd (X : Stand p l e R s m args below meth c T locs cells slots) (hx : p.tables.exec = Jvm.exec) {x y : Int64} (pc' : Nat) (hp : pc + 1 = pc') (hd : decode c.code pc = .ok (.ladd, 1)) (z : Int64) (hz : x + y = z) (k : own_Go p e below Fe Q (T.setTop (mkF m pc' Ls (.long z :: st)))) : own_Go p e below Fe Q (T.setTop (mkF m pc Ls (.long y :: .long x :: st))) := by
  subst hp; subst hz
  exact own_st (fun _ hr => XS.ladd X.here hx rfl hd rfl hr) k
theorem own_lsub (X : Stand p l e R s m args below meth c T locs cells slots) (hx : p.tables.exec = Jvm.exec) {x y : Int64} (pc' : Nat) (hp : pc + 1 = pc') (hd : decode c.code pc = .ok (.lsub, 1)) (z : Int64) (hz : x - y = z) (k : own_Go p e below Fe Q (T.setTop (mkF m pc' Ls (.long z :: st)))) : own_Go p e below Fe Q (T.setTop (mkF m pc Ls (.long y :: .long x :: st))) := by
  subst hp; subst hz
  exact own_st (fun _ hr => XS.lsub X.here hx rfl hd rfl hr) k
theorem own_lmul (X : Stand p l e R s m args below meth c T locs cells slots) (hx : p.tables.exec = Jvm.exec) {x y : Int64} (pc' : Nat) (hp : pc + 1 = pc') (hd : decode c.code pc = .ok (.lmul, 1)) (z : Int64) (hz : x * y = z) (k : own_Go p e below Fe Q (T.setTop (mkF m pc' Ls (.long z :: st)))) : own_Go p e below Fe Q (T.setTop (mkF m pc Ls (.long y :: .long x :: st))) := by
  subst hp; subst hz
  exact own_st (fun _ hr => XS.lmul X.here hx rfl hd rfl hr) k
theorem own_land (X : Stand p l e R s m args below meth c T locs cells slots) (hx : p.tables.exec = Jvm.exec) {x y : Int64} (pc' : Nat) (hp : pc + 1 = pc') (hd : decode c.code pc = .ok (.land, 1)) (z : Int64) (hz : x &&& y = z) (k : own_Go p e below Fe Q (T.setTop (mkF m pc' Ls (.long z :: st)))) : own_Go p e below Fe Q (T.setTop (mkF m pc Ls (.long y :: .long x :: st))) := by
  subst hp; subst hz
  exact own_st (fun _ hr => XS.land X.here hx rfl hd rfl hr) k
theorem own_lor (X : Stand p l e R s m args below meth c T locs cells slots) (hx : p.tables.exec = Jvm.exec) {x y : Int64} (pc' : Nat) (hp : pc + 1 = pc') (hd : decode c.code pc = .ok (.lor, 1)) (z : Int64) (hz : x ||| y = z) (k : own_Go p e below Fe Q (T.setTop (mkF m pc' Ls (.long z :: st)))) : own_Go p e below Fe Q (T.setTop (mkF m pc Ls (.long y :: .long x :: st))) := by
  subst hp; subst hz
  exact own_st (fun _ hr => XS.lor X.here hx rfl hd rfl hr) k
theorem own_lxor (X : Stand p l e R s m args below meth c T locs cells slots) (hx : p.tables.exec = Jvm.exec) {x y : Int64} (pc' : Nat) (hp : pc + 1 = pc') (hd : decode c.code pc = .ok (.lxor, 1)) (z : Int64) (hz : x ^^^ y = z) (k : own_Go p e below Fe Q (T.setTop (mkF m pc' Ls (.long z :: st)))) : own_Go p e below Fe Q (T.setTop (mkF m pc Ls (.long y :: .long x :: st))) := by
  subst hp; subst hz
  exact own_st (fun _ hr => XS.lxor X.here hx rfl hd rfl hr) k
theorem own_lneg (X : Stand p l e R s m args below meth c T locs cells slots) (hx : p.tables.exec = Jvm.exec) {x : Int64} (pc' : Nat) (hp : pc + 1 = pc') (hd : decode c.code pc = .ok (.lneg, 1)) (z : Int64) (hz : -x = z) (k : own_Go p e below Fe Q (T.setTop (mkF m pc' Ls (.long z :: st)))) : own_Go p e below Fe Q (T.setTop (mkF m pc Ls (.long x :: st))) := by
  subst hp; subst hz
  exact own_st (fun _ hr => XS.lneg X.here hx rfl hd rfl hr) k
theorem own_ldiv (X : Stand p l e R s m args below meth c T locs cells slots) (hx : p.tables.exec = Jvm.exec) {x y : Int64} (pc' : Nat) (hp : pc + 1 = pc') (hd : decode c.code pc = .ok (.ldiv, 1)) (hy : y ≠ 0) (z : Int64) (hz : x / y = z) (k : own_Go p e below Fe Q (T.setTop (mkF m pc' Ls (.long z :: st)))) : own_Go p e below Fe Q (T.setTop (mkF m pc Ls (.long y :: .long x :: st))) := by
  subst hp; subst hz
  exact own_st (fun _ hr => XS.ldiv X.here hx rfl hd rfl hy hr) k
theorem own_irem (X : Stand p l e R s m args below meth c T locs cells slots) (hx : p.tables.exec = Jvm.exec) {x y : Int32} (pc' : Nat) (hp : pc + 1 = pc') (hd : decode c.code pc = .ok (.irem, 1)) (hy : y ≠ 0) (z : Int32) (hz : x % y = z) (k : own_Go p e below Fe Q (T.setTop (mkF m pc' Ls (.int z :: st)))) : own_Go p e below Fe Q (T.setTop (mkF m pc Ls (.int y :: .int x :: st))) := by
  subst hp; subst hz
  exact own_st (fun _ hr => iremM (g := mkF m pc Ls (.int y :: .int x :: st)) X hx rfl hd rfl hy hr) k
theorem own_lrem (X : Stand p l e R s m args below meth c T locs cells slots) (hx : p.tables.exec = Jvm.exec) {x y : Int64} (pc' : Nat) (hp : pc + 1 = pc') (hd : decode c.code pc = .ok (.lrem, 1)) (hy : y ≠ 0) (z : Int64) (hz : x % y = z) (k : own_Go p e below Fe Q (T.setTop (mkF m pc' Ls (.long z :: st)))) : own_Go p e below Fe Q (T.setTop (mkF m pc Ls (.long y :: .long x :: st))) := by
  subst hp; subst hz
  exact own_st (fun _ hr => XS.lrem X.here hx rfl hd rfl hy (by rw [lrem_mod]; exact hr)) k
theorem own_ishl (X : Stand p l e R s m args below meth c T locs cells slots) (hx : p.tables.exec = Jvm.exec) {x : Int32} {y : Int32} (pc' : Nat) (hp : pc + 1 = pc') (hd : decode c.code pc = .ok (.ishl, 1)) (z : Int32) (hz : x <<< (y &&& 31) = z) (k : own_Go p e below Fe Q (T.setTop (mkF m pc' Ls (.int z :: st)))) : own_Go p e below Fe Q (T.setTop (mkF m pc Ls (.int y :: .int x :: st))) := by
  subst hp; subst hz
  exact own_st (fun _ hr => XS.ishl X.here hx rfl hd rfl hr) k
theorem own_ishr (X : Stand p l e R s m args below meth c T locs cells slots) (hx : p.tables.exec = Jvm.exec) {x : Int32} {y : Int32} (pc' : Nat) (hp : pc + 1 = pc') (hd : decode c.code pc = .ok (.ishr, 1)) (z : Int32) (hz : x >>> (y &&& 31) = z) (k : own_Go p e below Fe Q (T.setTop (mkF m pc' Ls (.int z :: st)))) : own_Go p e below Fe Q (T.setTop (mkF m pc Ls (.int y :: .int x :: st))) := by
  subst hp; subst hz
  exact own_st (fun _ hr => XS.ishr X.here hx rfl hd rfl hr) k
theorem own_iushr (X : Stand p l e R s m args below meth c T locs cells slots) (hx : p.tables.exec = Jvm.exec) {x : Int32} {y : Int32} (pc' : Nat) (hp : pc + 1 = pc') (hd : decode c.code pc = .ok (.iushr, 1)) (z : Int32) (hz : (x.toUInt32 >>> (y &&& 31).toUInt32).toInt32 = z) (k : own_Go p e below Fe Q (T.setTop (mkF m pc' Ls (.int z :: st)))) : own_Go p e below Fe Q (T.setTop (mkF m pc Ls (.int y :: .int x :: st))) := by
  subst hp; subst hz
  exact own_st (fun _ hr => XS.iushr X.here hx rfl hd rfl hr) k
theorem own_lshl (X : Stand p l e R s m args below meth c T locs cells slots) (hx : p.tables.exec = Jvm.exec) {x : Int64} {y : Int32} (pc' : Nat) (hp : pc + 1 = pc') (hd : decode c.code pc = .ok (.lshl, 1)) (z : Int64) (hz : x <<< (y &&& 0x3f).toInt64 = z) (k : own_Go p e below Fe Q (T.setTop (mkF m pc' Ls (.long z :: st)))) : own_Go p e below Fe Q (T.setTop (mkF m pc Ls (.int y :: .long x :: st))) := by
  subst hp; subst hz
  exact own_st (fun _ hr => XS.lshl X.here hx rfl hd rfl hr) k
theorem own_lshr (X : Stand p l e R s m args below meth c T locs cells slots) (hx : p.tables.exec = Jvm.exec) {x : Int64} {y : Int32} (pc' : Nat) (hp : pc + 1 = pc') (hd : decode c.code pc = .ok (.lshr, 1)) (z : Int64) (hz : x >>> (y &&& 0x3f).toInt64 = z) (k : own_Go p e below Fe Q (T.setTop (mkF m pc' Ls (.long z :: st)))) : own_Go p e below Fe Q (T.setTop (mkF m pc Ls (.int y :: .long x :: st))) := by
  subst hp; subst hz
  exact own_st (fun _ hr => XS.lshr X.here hx rfl hd rfl hr) k
theorem own_lushr (X : Stand p l e R s m args below meth c T locs cells slots) (hx : p.tables.exec = Jvm.exec) {x : Int64} {y : Int32} (pc' : Nat) (hp : pc + 1 = pc') (hd : decode c.code pc = .ok (.lushr, 1)) (z : Int64) (hz : (x.toUInt64 >>> (y &&& 0x3f).toInt64.toUInt64).toInt64 = z) (k : own_Go p e below Fe Q (T.setTop (mkF m pc' Ls (.long z :: st)))) : own_Go p e below Fe Q (T.setTop (mkF m pc Ls (.int y :: .long x :: st))) := by
  subst hp; subst hz
  exact own_st (fun _ hr => XS.lushr X.here hx rfl hd rfl hr) k
theorem own_i2l (X : Stand p l e R s m args below meth c T locs cells slots) (hx : p.tables.exec = Jvm.exec) {x : Int32} (pc' : Nat) (hp : pc + 1 = pc') (hd : decode c.code pc = .ok (.i2l, 1)) (z : Int64) (hz : x.toInt64 = z) (k : own_Go p e below Fe Q (T.setTop (mkF m pc' Ls (.long z :: st)))) : own_Go p e below Fe Q (T.setTop (mkF m pc Ls (.int x :: st))) := by
  subst hp; subst hz
  exact own_st (fun _ hr => XS.i2l X.here hx rfl hd rfl hr) k
theorem own_l2i (X : Stand p l e R s m args below meth c T locs cells slots) (hx : p.tables.exec = Jvm.exec) {x : Int64} (pc' : Nat) (hp : pc + 1 = pc') (hd : decode c.code pc = .ok (.l2i, 1)) (z : Int32) (hz : x.toInt32 = z) (k : own_Go p e below Fe Q (T.setTop (mkF m pc' Ls (.int z :: st)))) : own_Go p e below Fe Q (T.setTop (mkF m pc Ls (.long x :: st))) := by
  subst hp; subst hz
  exact own_st (fun _ hr => XS.l2i X.here hx rfl hd rfl hr) k
theorem own_i2b (X : Stand p l e R s m args below meth c T locs cells slots) (hx : p.tables.exec = Jvm.exec) {x : Int32} (pc' : Nat) (hp : pc + 1 = pc') (hd : decode c.code pc = .ok (.i2b, 1)) (z : Int32) (hz : x.toInt8.toInt32 = z) (k : own_Go p e below Fe Q (T.setTop (mkF m pc' Ls (.int z :: st)))) : own_Go p e below Fe Q (T.setTop (mkF m pc Ls (.int x :: st))) := by
  subst hp; subst hz
  exact own_st (fun _ hr => XS.i2b X.here hx rfl hd rfl hr) k
theorem own_i2s (X : Stand p l e R s m args below meth c T locs cells slots) (hx : p.tables.exec = Jvm.exec) {x : Int32} (pc' : Nat) (hp : pc + 1 = pc') (hd : decode c.code pc = .ok (.i2s, 1)) (z : Int32) (hz : x.toInt16.toInt32 = z) (k : own_Go p e below Fe Q (T.setTop (mkF m pc' Ls (.int z :: st)))) : own_Go p e below Fe Q (T.setTop (mkF m pc Ls (.int x :: st))) := by
  subst hp; subst hz
  exact own_st (fun _ hr => XS.i2s X.here hx rfl hd rfl hr) k
theorem own_i2c (X : Stand p l e R s m args below meth c T locs cells slots) (hx : p.tables.exec = Jvm.exec) {x : Int32} (pc' : Nat) (hp : pc + 1 = pc') (hd : decode c.code pc = .ok (.i2c, 1)) (z : Int32) (hz : x.toUInt32.toUInt16.toUInt32.toInt32 = z) (k : own_Go p e below Fe Q (T.setTop (mkF m pc' Ls (.int z :: st)))) : own_Go p e below Fe Q (T.setTop (mkF m pc Ls (.int x :: st))) := by
  subst hp; subst hz
  exact own_st (fun _ hr => XS.i2c X.here hx rfl hd rfl hr) k
theorem own_lcmp (X : Stand p l e R s m args below meth c T locs cells slots) (hx : p.tables.exec = Jvm.exec) {x y : Int64} (pc' : Nat) (hp : pc + 1 = pc') (hd : decode c.code pc = .ok (.lcmp, 1)) (z : Int32) (hz : lcmpW x y = z) (k : own_Go p e below Fe Q (T.setTop (mkF m pc' Ls (.int z :: st)))) : own_Go p e below Fe Q (T.setTop (mkF m pc Ls (.long y :: .long x :: st))) := by
  subst hp; subst hz
  exact own_st (fun _ hr => XS.lcmp X.here hx rfl hd rfl hr) k
theorem own_i2d (X : Stand p l e R s m args below meth c T locs cells slots) (hx : p.tables.exec = Jvm.exec) {x : Int32} (pc' : Nat) (hp : pc + 1 = pc') (hd : decode c.code pc = .ok (.i2d, 1)) (z : UInt64) (hz : FP.i2d x = z) (k : own_Go p e below Fe Q (T.setTop (mkF m pc' Ls (.double z :: st)))) : own_Go p e below Fe Q (T.setTop (mkF m pc Ls (.int x :: st))) := by
  subst hp
  exact own_st (fun _ hr => XS.i2dS X.here hx rfl hd rfl hz hr) k
theorem own_l2d (X : Stand p l e R s m args below meth c T locs cells slots) (hx : p.tables.exec = Jvm.exec) {x : Int64} (pc' : Nat) (hp : pc + 1 = pc') (hd : decode c.code pc = .ok (.l2d, 1)) (z : UInt64) (hz : FP.l2d x = z) (k : own_Go p e below Fe Q (T.setTop (mkF m pc' Ls (.double z :: st)))) : own_Go p e below Fe Q (T.setTop (mkF m pc Ls (.long x :: st))) := by
  subst hp
  exact own_st (fun _ hr => XS.l2dS X.here hx rfl hd rfl hz hr) k
theorem own_d2i (X : Stand p l e R s m args below meth c T locs cells slots) (hx : p.tables.exec = Jvm.exec) {x : UInt64} (pc' : Nat) (hp : pc + 1 = pc') (hd : decode c.code pc = .ok (.d2i, 1)) (z : Int32) (hz : FP.d2i x = z) (k : own_Go p e below Fe Q (T.setTop (mkF m pc' Ls (.int z :: st)))) : own_Go p e below Fe Q (T.setTop (mkF m pc Ls (.double x :: st))) := by
  subst hp
  exact own_st (fun _ hr => XS.d2iS X.here hx rfl hd rfl hz hr) k
theorem own_d2l (X : Stand p l e R s m args below meth c T locs cells slots) (hx : p.tables.exec = Jvm.exec) {x : UInt64} (pc' : Nat) (hp : pc + 1 = pc') (hd : decode c.code pc = .ok (.d2l, 1)) (z : Int64) (hz : FP.d2l x = z) (k : own_Go p e below Fe Q (T.setTop (mkF m pc' Ls (.long z :: st)))) : own_Go p e below Fe Q (T.setTop (mkF m pc Ls (.double x :: st))) := by
  subst hp
  exact own_st (fun _ hr => XS.d2lS X.here hx rfl hd rfl hz hr) k
theorem own_dneg (X : Stand p l e R s m args below meth c T locs cells slots) (hx : p.tables.exec = Jvm.exec) {x : UInt64} (pc' : Nat) (hp : pc + 1 = pc') (hd : decode c.code pc = .ok (.dneg, 1)) (z : UInt64) (hz : FP.dneg x = z) (k : own_Go p e below Fe Q (T.setTop (mkF m pc' Ls (.double z :: st)))) : own_Go p e below Fe Q (T.setTop (mkF m pc Ls (.double x :: st))) := by
  subst hp
  exact own_st (fun _ hr => XS.dnegS X.here hx rfl hd rfl hz hr) k
theorem own_dadd (X : Stand p l e R s m args below meth c T locs cells slots) (hx : p.tables.exec = Jvm.exec) {x y : UInt64} (pc' : Nat) (hp : pc + 1 = pc') (hd : decode c.code pc = .ok (.dadd, 1)) (hn : NoNaN64 (FP.dadd x y)) (z : UInt64) (hz : FP.dadd x y = z) (k : own_Go p e below Fe Q (T.setTop (mkF m pc' Ls (.double z :: st)))) : own_Go p e below Fe Q (T.setTop (mkF m pc Ls (.double y :: .double x :: st))) := by
  subst hp
  exact own_st (fun _ hr => XS.daddS X.here hx rfl hd rfl hn hz hr) k
theorem own_dsub (X : Stand p l e R s m args below meth c T locs cells slots) (hx : p.tables.exec = Jvm.exec) {x y : UInt64} (pc' : Nat) (hp : pc + 1 = pc') (hd : decode c.code pc = .ok (.dsub, 1)) (hn : NoNaN64 (FP.dsub x y)) (z : UInt64) (hz : FP.dsub x y = z) (k : own_Go p e below Fe Q (T.setTop (mkF m pc' Ls (.double z :: st)))) : own_Go p e below Fe Q (T.setTop (mkF m pc Ls (.double y :: .double x :: st))) := by
  subst hp
  exact own_st (fun _ hr => XS.dsubS X.here hx rfl hd rfl hn hz hr) k
theorem own_dmul (X : Stand p l e R s m args below meth c T locs cells slots) (hx : p.tables.exec = Jvm.exec) {x y : UInt64} (pc' : Nat) (hp : pc + 1 = pc') (hd : decode c.code pc = .ok (.dmul, 1)) (hn : NoNaN64 (FP.dmul x y)) (z : UInt64) (hz : FP.dmul x y = z) (k : own_Go p e below Fe Q (T.setTop (mkF m pc' Ls (.double z :: st)))) : own_Go p e below Fe Q (T.setTop (mkF m pc Ls (.double y :: .double x :: st))) := by
  subst hp
  exact own_st (fun _ hr => XS.dmulS X.here hx rfl hd rfl hn hz hr) k
theorem own_ddiv (X : Stand p l e R s m args below meth c T locs cells slots) (hx : p.tables.exec = Jvm.exec) {x y : UInt64} (pc' : Nat) (hp : pc + 1 = pc') (hd : decode c.code pc = .ok (.ddiv, 1)) (hn : NoNaN64 (FP.ddiv x y)) (z : UInt64) (hz : FP.ddiv x y = z) (k : own_Go p e below Fe Q (T.setTop (mkF m pc' Ls (.double z :: st)))) : own_Go p e below Fe Q (T.setTop (mkF m pc Ls (.double y :: .double x :: st))) := by
  subst hp
  exact own_st (fun _ hr => XS.ddivS X.here hx rfl hd rfl hn hz hr) k
theorem own_dcmp (X : Stand p l e R s m args below meth c T locs cells slots) (hx : p.tables.exec = Jvm.exec) {o : CmpOp} {x y : UInt64} (pc' : Nat) (hp : pc + 1 = pc') (hd : decode c.code pc = .ok (.dcmp o, 1)) (z : Int32) (hz : cmpValue (FP.dcmp x y) o = z) (k : own_Go p e below Fe Q (T.setTop (mkF m pc' Ls (.int z :: st)))) : own_Go p e below Fe Q (T.setTop (mkF m pc Ls (.double y :: .double x :: st))) := by
  subst hp
  exact own_st (fun _ hr => XS.dcmpS X.here hx rfl hd rfl hz hr) k
theorem own_iinc (X : Stand p l e R s m args below meth c T locs cells slots) (hx : p.tables.exec = Jvm.exec) {i : Nat} {cst : Int} {x : Int32} (pc' : Nat) (hp : pc + 3 = pc') (hd : decode c.code pc = .ok (.iinc i cst, 3)) (hl : Ls[i]? = some (.val (.int x))) (Ls' : Array Slot) (hl' : storeLocals Ls i (.int (x + Int32.ofInt cst)) = some Ls') (k : own_Go p e below Fe Q (T.setTop (mkF m pc' Ls' (st)))) : own_Go p e below Fe Q (T.setTop (mkF m pc Ls (st))) := by
  subst hp
  exact own_st (fun _ hr => XS.iinc X.here hx rfl hd hl hl' hr) k
theorem own_dup (X : Stand p l e R s m args below meth c T locs cells slots) (hx : p.tables.exec = Jvm.exec) {x : Value} (pc' : Nat) (hp : pc + 1 = pc') (hd : decode c.code pc = .ok (.dup, 1)) (hc : x.category = 1) (k : own_Go p e below Fe Q (T.setTop (mkF m pc' Ls (x :: x :: st)))) : own_Go p e below Fe Q (T.setTop (mkF m pc Ls (x :: st))) := by
  subst hp
  exact own_st (fun _ hr => XS.dup X.here hx rfl hd rfl hc hr) k
theorem own_dupX1 (X : Stand p l e R s m args below meth c T locs cells slots) (hx : p.tables.exec = Jvm.exec) {x y : Value} (pc' : Nat) (hp : pc + 1 = pc') (hd : decode c.code pc = .ok (.dup_x1, 1)) (hc : x.category = 1) (hc' : y.category = 1) (k : own_Go p e below Fe Q (T.setTop (mkF m pc' Ls (x :: y :: x :: st)))) : own_Go p e below Fe Q (T.setTop (mkF m pc Ls (x :: y :: st))) := by
  subst hp
  exact own_st (fun _ hr => XS.dupX1 X.here hx rfl hd rfl hc hc' hr) k
theorem own_pop (X : Stand p l e R s m args below meth c T locs cells slots) (hx : p.tables.exec = Jvm.exec) {x : Value} (pc' : Nat) (hp : pc + 1 = pc') (hd : decode c.code pc = .ok (.pop, 1)) (hc : x.category = 1) (k : own_Go p e below Fe Q (T.setTop (mkF m pc' Ls (st)))) : own_Go p e below Fe Q (T.setTop (mkF m pc Ls (x :: st))) := by
  subst hp
  exact own_st (fun _ hr => XS.pop X.here hx rfl hd rfl hc hr) k
theorem own_goto (X : Stand p l e R s m args below meth c T locs cells slots) (hx : p.tables.exec = Jvm.exec)  {o : Int} (pc' : Nat) (hd : decode c.code pc = .ok (.goto o, 3))  (ho : 0 ≤ (pc : Int) + o) (hp : ((pc : Int) + o).toNat = pc') (k : own_Go p e below Fe Q (T.setTop (mkF m pc' Ls (st)))) : own_Go p e below Fe Q (T.setTop (mkF m pc Ls (st))) :=
  own_st (fun _ hr => XS.goto X.here hx rfl rfl hd ho hp hr) k
theorem own_ifYes (X : Stand p l e R s m args below meth c T locs cells slots) (hx : p.tables.exec = Jvm.exec) {cd : ClassFile.Cond} {x : Int32} {o : Int} (pc' : Nat) (hd : decode c.code pc = .ok (.ifCond cd o, 3)) (hc : ifCond.holds cd x = true) (ho : 0 ≤ (pc : Int) + o) (hp : ((pc : Int) + o).toNat = pc') (k : own_Go p e below Fe Q (T.setTop (mkF m pc' Ls (st)))) : own_Go p e below Fe Q (T.setTop (mkF m pc Ls (.int x :: st))) :=
  own_st (fun _ hr => XS.ifYes X.here hx rfl rfl hd rfl hc ho hp hr) k
theorem own_icmpYes (X : Stand p l e R s m args below meth c T locs cells slots) (hx : p.tables.exec = Jvm.exec) {cd : ClassFile.Cond} {x y : Int32} {o : Int} (pc' : Nat) (hd : decode c.code pc = .ok (.if_icmp cd o, 3)) (hc : if_icmp.holds cd x y = true) (ho : 0 ≤ (pc : Int) + o) (hp : ((pc : Int) + o).toNat = pc') (k : own_Go p e below Fe Q (T.setTop (mkF m pc' Ls (st)))) : own_Go p e below Fe Q (T.setTop (mkF m pc Ls (.int y :: .int x :: st))) :=
  own_st (fun _ hr => XS.icmpYes X.here hx rfl rfl hd rfl hc ho hp hr) k
theorem own_ifnullYes (X : Stand p l e R s m args below meth c T locs cells slots) (hx : p.tables.exec = Jvm.exec)  {o : Int} (pc' : Nat) (hd : decode c.code pc = .ok (.ifnull o, 3))  (ho : 0 ≤ (pc : Int) + o) (hp : ((pc : Int) + o).toNat = pc') (k : own_Go p e below Fe Q (T.setTop (mkF m pc' Ls (st)))) : own_Go p e below Fe Q (T.setTop (mkF m pc Ls (.null :: st))) :=
  own_st (fun _ hr => XS.ifnullYes X.here hx rfl rfl hd rfl ho hp hr) k
theorem own_ifnonnullYes (X : Stand p l e R s m args below meth c T locs cells slots) (hx : p.tables.exec = Jvm.exec) {b : Addr} {o : Int} (pc' : Nat) (hd : decode c.code pc = .ok (.ifnonnull o, 3))  (ho : 0 ≤ (pc : Int) + o) (hp : ((pc : Int) + o).toNat = pc') (k : own_Go p e below Fe Q (T.setTop (mkF m pc' Ls (st)))) : own_Go p e below Fe Q (T.setTop (mkF m pc Ls (.ref b :: st))) :=
  own_st (fun _ hr => XS.ifnonnullYes X.here hx rfl rfl hd rfl ho hp hr) k
theorem own_ifNo (X : Stand p l e R s m args below meth c T locs cells slots) (hx : p.tables.exec = Jvm.exec) {cd : ClassFile.Cond} {o : Int} {x : Int32} (pc' : Nat) (hp : pc + 3 = pc') (hd : decode c.code pc = .ok (.ifCond cd o, 3)) (hc : ifCond.holds cd x = false) (k : own_Go p e below Fe Q (T.setTop (mkF m pc' Ls (st)))) : own_Go p e below Fe Q (T.setTop (mkF m pc Ls (.int x :: st))) := by
  subst hp
  exact own_st (fun _ hr => XS.ifNo X.here hx rfl hd rfl hc hr) k
theorem own_icmpNo (X : Stand p l e R s m args below meth c T locs cells slots) (hx : p.tables.exec = Jvm.exec) {cd : ClassFile.Cond} {o : Int} {x y : Int32} (pc' : Nat) (hp : pc + 3 = pc') (hd : decode c.code pc = .ok (.if_icmp cd o, 3)) (hc : if_icmp.holds cd x y = false) (k : own_Go p e below Fe Q (T.setTop (mkF m pc' Ls (st)))) : own_Go p e below Fe Q (T.setTop (mkF m pc Ls (.int y :: .int x :: st))) := by
  subst hp
  exact own_st (fun _ hr => XS.icmpNo X.here hx rfl hd rfl hc hr) k
theorem own_ifnullNo (X : Stand p l e R s m args below meth c T locs cells slots) (hx : p.tables.exec = Jvm.exec) {o : Int} {b : Addr} (pc' : Nat) (hp : pc + 3 = pc') (hd : decode c.code pc = .ok (.ifnull o, 3))  (k : own_Go p e below Fe Q (T.setTop (mkF m pc' Ls (st)))) : own_Go p e below Fe Q (T.setTop (mkF m pc Ls (.ref b :: st))) := by
  subst hp
  exact own_st (fun _ hr => XS.ifnullNo X.here hx rfl hd rfl hr) k
theorem own_ifnonnullNo (X : Stand p l e R s m args below meth c T locs cells slots) (hx : p.tables.exec = Jvm.exec) {o : Int} (pc' : Nat) (hp : pc + 3 = pc') (hd : decode c.code pc = .ok (.ifnonnull o, 3))  (k : own_Go p e below Fe Q (T.setTop (mkF m pc' Ls (st)))) : own_Go p e below Fe Q (T.setTop (mkF m pc Ls (.null :: st))) := by
  subst hp
  exact own_st (fun _ hr => XS.ifnonnullNo X.here hx rfl hd rfl hr) k
theorem own_acmp (X : Stand p l e R s m args below meth c T locs cells slots) (hx : p.tables.exec = Jvm.exec) {cd : ACond} {x y : Value} {o : Int} (same : Bool) (pc' : Nat) (hd : decode c.code pc = .ok (.if_acmp cd o, 3)) (h1 : x.isRef = true) (h2 : y.isRef = true) (hq : decide (x = y) = same) (ho : 0 ≤ (pc : Int) + o) (hp : pc' = if acV cd same = true then ((pc : Int) + o).toNat else pc + 3) (k : own_Go p e below Fe Q (T.setTop (mkF m pc' Ls st))) : own_Go p e below Fe Q (T.setTop (mkF m pc Ls (y :: x :: st))) :=
  own_st (fun _ hr => Jvm.RoadKit.acmp (g := mkF m pc Ls (y :: x :: st)) X hx rfl h1 h2 (pc0 := pc) (pc' := pc') (same := same) rfl hd rfl hq ho hp hr) k
theorem own_tsw (X : Stand p l e R s m args below meth c T locs cells slots) (hx : p.tables.exec = Jvm.exec) {dflt low high : Int} {offs : Array Int} {len : Nat} {i : Int32} {o : Int} (pc' : Nat) (hd : decode c.code pc = .ok (.tableswitch dflt low high offs, len)) (hin : ¬ (i.toInt < low ∨ i.toInt > high)) (hoff : offs[(i.toInt - low).toNat]? = some o) (ho : 0 ≤ (pc : Int) + o) (hp : ((pc : Int) + o).toNat = pc') (k : own_Go p e below Fe Q (T.setTop (mkF m pc' Ls st))) : own_Go p e below Fe Q (T.setTop (mkF m pc Ls (.int i :: st))) :=
  own_st (fun _ hr => XS.tswIn X.here hx rfl rfl hd rfl hin hoff ho hp hr) k
theorem own_ldcI (X : Stand p l e R s m args below meth c T locs cells slots) (hx : p.tables.exec = Jvm.exec) (hZ : Z.Warmed39 s.vm) {own : String} {index : Nat} (hown : s.vm.findClass own = some m.cls) {z : Int32} (w : (Jvm.Cond.constant own index z).before a0 Z = true) (pc' : Nat) (hp : pc + 2 = pc') (hd : decode c.code pc = .ok (.ldc index, 2)) (k : own_Go p e below Fe Q (T.setTop (mkF m pc' Ls (.int z :: st)))) : own_Go p e below Fe Q (T.setTop (mkF m pc Ls st)) := by
  subst hp
  exact own_st (X.ldcInt hx hown (mvT hZ w) (g := mkF m pc Ls st) rfl hd) k
theorem own_ldcWI (X : Stand p l e R s m args below meth c T locs cells slots) (hx : p.tables.exec = Jvm.exec) (hZ : Z.Warmed39 s.vm) {own : String} {index : Nat} (hown : s.vm.findClass own = some m.cls) {z : Int32} (w : (Jvm.Cond.constant own index z).before a0 Z = true) (pc' : Nat) (hp : pc + 3 = pc') (hd : decode c.code pc = .ok (.ldc_w index, 3)) (k : own_Go p e below Fe Q (T.setTop (mkF m pc' Ls (.int z :: st)))) : own_Go p e below Fe Q (T.setTop (mkF m pc Ls st)) := by
  subst hp
  exact own_st (X.ldcwInt hx hown (mvT hZ w) (g := mkF m pc Ls st) rfl hd) k
theorem own_ldcJ (X : Stand p l e R s m args below meth c T locs cells slots) (hx : p.tables.exec = Jvm.exec) (hZ : Z.Warmed39 s.vm) {own : String} {index : Nat} (hown : s.vm.findClass own = some m.cls) {z : Int64} (w : (Jvm.Cond.constantLong own index z).before a0 Z = true) (pc' : Nat) (hp : pc + 3 = pc') (hd : decode c.code pc = .ok (.ldc2_w index, 3)) (k : own_Go p e below Fe Q (T.setTop (mkF m pc' Ls (.long z :: st)))) : own_Go p e below Fe Q (T.setTop (mkF m pc Ls st)) := by
  subst hp
  exact own_st (X.ldc2Long hx hown (mvT hZ w) (g := mkF m pc Ls st) rfl hd) k
theorem own_ldcD (X : Stand p l e R s m args below meth c T locs cells slots) (hx : p.tables.exec = Jvm.exec) (hZ : Z.Warmed39 s.vm) {own : String} {index : Nat} (hown : s.vm.findClass own = some m.cls) {z : UInt64} (w : (Jvm.Cond.constantDouble own index z).before a0 Z = true) (pc' : Nat) (hp : pc + 3 = pc') (hd : decode c.code pc = .ok (.ldc2_w index, 3)) (k : own_Go p e below Fe Q (T.setTop (mkF m pc' Ls (.double z :: st)))) : own_Go p e below Fe Q (T.setTop (mkF m pc Ls st)) := by
  subst hp
  exact own_st (X.ldc2DoubleC hx hown (mvT hZ w) (g := mkF m pc Ls st) rfl hd) k
theorem own_getS (X : Stand p l e R s m args below meth c T locs cells slots) (hx : p.tables.exec = Jvm.exec) (hZ : Z.Warmed39 s.vm) {own R0 O n d host : String} {index : Nat} (hown : s.vm.findClass own = some m.cls) (w : (Jvm.Cond.fieldLink own index R0 n d).before a0 Z = true ∨ (Jvm.Cond.fieldLinkNest own index R0 n d host).before a0 Z = true) (via : Via Z R0 O n d) (eT : T.heap = h) {v : Value} (F : Sta Z h O n d v) (pc' : Nat) (hp : pc + 3 = pc') (hd : decode c.code pc = .ok (.getstatic index, 3))
    (k : ∀ T', Stand p l e R s m args below meth c T' locs cells slots → T'.heap = h → own_Go p e below Fe Q (T'.setTop (mkF m pc' Ls (v :: st)))) : own_Go p e below Fe Q (T.setTop (mkF m pc Ls st)) := by
  subst hp
  obtain ⟨T', X', e', st'⟩ := getS2 X hx hZ hown w via eT F (g := mkF m pc Ls st) rfl hd
  exact own_st st' (k T' X' e')
theorem own_getF (X : Stand p l e R s m args below meth c T locs cells slots) (hx : p.tables.exec = Jvm.exec) (hZ : Z.Warmed39 s.vm) {own R0 O n d host : String} {index : Nat} (hown : s.vm.findClass own = some m.cls) (w : (Jvm.Cond.fieldLink own index R0 n d).before a0 Z = true ∨ (Jvm.Cond.fieldLinkNest own index R0 n d host).before a0 Z = true) (via : Via Z R0 O n d) (eT : T.heap = h) {a : Addr} {v : Value} (F : Fld Z h a O n d v) (pc' : Nat) (hp : pc + 3 = pc') (hd : decode c.code pc = .ok (.getfield index, 3))
    (k : ∀ T', Stand p l e R s m args below meth c T' locs cells slots → T'.heap = h → own_Go p e below Fe Q (T'.setTop (mkF m pc' Ls (v :: st)))) : own_Go p e below Fe Q (T.setTop (mkF m pc Ls (.ref a :: st))) := by
  subst hp
  obtain ⟨T', X', e', st'⟩ := getF X hx hZ hown w via eT F (g := mkF m pc Ls (.ref a :: st)) rfl rfl hd
  exact own_st st' (k T' X' e')
theorem own_putF (X : Stand p l e R s m args below meth c T locs cells slots) (hx : p.tables.exec = Jvm.exec) (hZ : Z.Warmed39 s.vm) {own R0 O n d host C : String} {index kk : Nat} {ty : FieldType} (hown : s.vm.findClass own = some m.cls) (w : (Jvm.Cond.fieldLink own index R0 n d).before a0 Z = true ∨ (Jvm.Cond.fieldLinkNest own index R0 n d host).before a0 Z = true) (via : Via Z R0 O n d) (eT : T.heap = h) {a : Addr} {v old : Value} (F : Fld Z h a O n d old) (E : Exa Z h a C)
    (L : (Jvm.Cond.lays C O n d).before a0 Z = true ∨ ((Jvm.Cond.laysFinal C O n d).before a0 Z = true ∧ own = O ∧ meth.name = "<init>")) (wi : (Jvm.Cond.instantiable C kk).before a0 Z = true) (hty : parseFieldDescriptor d = some ty) (hn : narrow ty v = v) (hf : Jvm.fits ty v = true) (pc' : Nat) (hp : pc + 3 = pc') (hd : decode c.code pc = .ok (.putfield index, 3))
    (k : ∀ T' h', Stand p l e R s m args below meth c T' (locs ++ [⟨a, Jvm.RoadKit.slotOf Z O n d⟩]) cells slots → T'.heap = h' → Wr h h' a (Jvm.RoadKit.slotOf Z O n d) v → own_Go p e below Fe Q (T'.setTop (mkF m pc' Ls st))) : own_Go p e below Fe Q (T.setTop (mkF m pc Ls (v :: .ref a :: st))) := by
  subst hp
  obtain ⟨T', h', X', e', W', st'⟩ := putF X hx hZ hown w via eT F E L wi hty hn hf (g := mkF m pc Ls (v :: .ref a :: st)) rfl rfl hd
  exact own_st st' (k T' h' X' e' W')
theorem own_putFN (X : Stand p l e R s m args below meth c T locs cells slots) (hx : p.tables.exec = Jvm.exec) (hZ : Z.Warmed39 s.vm) {own R0 O n d C : String} {index kk : Nat} {ty : FieldType} (hown : s.vm.findClass own = some m.cls) (w : (Jvm.Cond.fieldLink own index R0 n d).before a0 Z = true) (via : Via Z R0 O n d) (eT : T.heap = h) {a : Addr} {v v' old : Value} (F : Fld Z h a O n d old) (E : Exa Z h a C)
    (L : (Jvm.Cond.lays C O n d).before a0 Z = true ∨ ((Jvm.Cond.laysFinal C O n d).before a0 Z = true ∧ own = O ∧ meth.name = "<init>")) (wi : (Jvm.Cond.instantiable C kk).before a0 Z = true) (hty : parseFieldDescriptor d = some ty) (hn : narrow ty v = v') (hf : Jvm.fits ty v' = true) (pc' : Nat) (hp : pc + 3 = pc') (hd : decode c.code pc = .ok (.putfield index, 3))
    (k : ∀ T' h', Stand p l e R s m args below meth c T' (locs ++ [⟨a, Jvm.RoadKit.slotOf Z O n d⟩]) cells slots → T'.heap = h' → Wr h h' a (Jvm.RoadKit.slotOf Z O n d) v' → own_Go p e below Fe Q (T'.setTop (mkF m pc' Ls st))) : own_Go p e below Fe Q (T.setTop (mkF m pc Ls (v :: .ref a :: st))) := by
  subst hp
  obtain ⟨T', h', X', e', W', st'⟩ := putFN X hx hZ hown w via eT F E L wi hty hn hf (g := mkF m pc Ls (v :: .ref a :: st)) rfl rfl hd
  exact own_st st' (k T' h' X' e' W')
theorem own_new (X : Stand p l e R s m args below meth c T locs cells slots) (hx : p.tables.exec = Jvm.exec) (hZ : Z.Warmed39 s.vm) {own C : String} {index n : Nat} (hown : s.vm.findClass own = some m.cls) (w : (Jvm.Cond.classLink own index C).before a0 Z = true) (wi : (Jvm.Cond.instantiable C n).before a0 Z = true) (wz : (Jvm.Cond.initialized C).before a0 Z = true) (eT : T.heap = h) (pc' : Nat) (hp : pc + 3 = pc') (hd : decode c.code pc = .ok (.new index, 3)) (hc : cells + 1 ≤ R.cells) (hl : slots + n ≤ R.slots)
    (k : ∀ T' h' b, b = h.size → Stand p l e R s m args below meth c T' locs (cells + 1) (slots + n) → T'.heap = h' → Ext h h' → Exa Z h' b C → (∀ {O nm d : String} {ty : FieldType}, Laid Z a0 C O nm d → parseFieldDescriptor d = some ty → Fld Z h' b O nm d (defaultValue ty)) → own_Go p e below Fe Q (T'.setTop (mkF m pc' Ls (.ref b :: st)))) : own_Go p e below Fe Q (T.setTop (mkF m pc Ls st)) := by
  subst hp
  obtain ⟨T', h', X', e', E', A', D', -, st'⟩ := newO X hx hZ hown w wi wz eT (g := mkF m pc Ls st) rfl hd hc hl
  exact own_st st' (k T' h' _ rfl X' e' E' A' D')
theorem own_newA (X : Stand p l e R s m args below meth c T locs cells slots) (hx : p.tables.exec = Jvm.exec) (hZ : Z.Warmed39 s.vm) {aty : ArrayType} (w : (Jvm.Cond.arrayClass (newarray.typeOf aty)).before a0 Z = true) (eT : T.heap = h) {n : Int32} (pc' : Nat) (hp : pc + 2 = pc') (hd : decode c.code pc = .ok (.newarray aty, 2)) (hn : ¬ n < 0) (cap : Nat) (hcap : n.toNatClampNeg ≤ cap) (hb : cap * 8 ≤ 536870912) (hc : cells + 1 ≤ R.cells) (hl : slots + cap ≤ R.slots) (ad : String) (had : "[" ++ (newarray.typeOf aty).toString = ad)
    (k : ∀ T' h' cA b, b = h.size → Stand p l e R s m args below meth c T' locs (cells + 1) (slots + cap) → T'.heap = h' → Ext h h' → Arr Z h' b (newA cA (newarray.typeOf aty) n) (newarray.typeOf aty) → Exa Z h' b ad → own_Go p e below Fe Q (T'.setTop (mkF m pc' Ls (.ref b :: st)))) : own_Go p e below Fe Q (T.setTop (mkF m pc Ls (.int n :: st))) := by
  subst hp
  obtain ⟨T', h', cA, X', e', E', A', C', st'⟩ := newPE X hx hZ w eT (g := mkF m pc Ls (.int n :: st)) rfl hd rfl hn hcap hb hc hl had
  exact own_st st' (k T' h' cA _ rfl X' e' E' A' C')
theorem own_stI (X : Stand p l e R s m args below meth c T locs cells slots) (hx : p.tables.exec = Jvm.exec) (hZ : Z.Warmed39 s.vm) (eT : T.heap = h) {a : Addr} {kA : ClassId} {n : Int32} {vs : List Value} {dv : Value} (F : Arv Z h a kA .int n vs dv) {j : Int32} {x : Int32} (hj : ¬ j < 0 ∧ j < n) (i : Nat) (hi : j.toNatClampNeg = i) (hl : i < vs.length) (vs' : List Value) (hvs : vs.set i (.int x) = vs') (pc' : Nat) (hp : pc + 1 = pc') (hd : decode c.code pc = .ok (.iastore, 1))
    (k : ∀ T' h', Stand p l e R s m args below meth c T' (locs ++ [⟨a, j.toNatClampNeg⟩]) cells slots → T'.heap = h' → Wr h h' a j.toNatClampNeg (.int x) → Arv Z h' a kA .int n vs' dv → own_Go p e below Fe Q (T'.setTop (mkF m pc' Ls st))) : own_Go p e below Fe Q (T.setTop (mkF m pc Ls (.int x :: .int j :: .ref a :: st))) := by
  subst hp; subst hvs
  obtain ⟨cl, Ar, q, S, N1, H, G⟩ := F
  have hin := inb_of S hj
  obtain ⟨T', h', X', e', W', st'⟩ := stI X hx hZ eT Ar (j := j) hin (g := mkF m pc Ls (.int x :: .int j :: .ref a :: st)) rfl rfl hd
  exact own_st st' (k T' h' X' e' W' (Arv.set Ar q S N1 H G rfl W' i hi hl))
theorem own_stJ (X : Stand p l e R s m args below meth c T locs cells slots) (hx : p.tables.exec = Jvm.exec) (hZ : Z.Warmed39 s.vm) (eT : T.heap = h) {a : Addr} {kA : ClassId} {n : Int32} {vs : List Value} {dv : Value} (F : Arv Z h a kA .long n vs dv) {j : Int32} {x : Int64} (hj : ¬ j < 0 ∧ j < n) (i : Nat) (hi : j.toNatClampNeg = i) (hl : i < vs.length) (vs' : List Value) (hvs : vs.set i (.long x) = vs') (pc' : Nat) (hp : pc + 1 = pc') (hd : decode c.code pc = .ok (.lastore, 1))
    (k : ∀ T' h', Stand p l e R s m args below meth c T' (locs ++ [⟨a, j.toNatClampNeg⟩]) cells slots → T'.heap = h' → Wr h h' a j.toNatClampNeg (.long x) → Arv Z h' a kA .long n vs' dv → own_Go p e below Fe Q (T'.setTop (mkF m pc' Ls st))) : own_Go p e below Fe Q (T.setTop (mkF m pc Ls (.long x :: .int j :: .ref a :: st))) := by
  subst hp; subst hvs
  obtain ⟨cl, Ar, q, S, N1, H, G⟩ := F
  have hin := inb_of S hj
  obtain ⟨T', h', X', e', W', st'⟩ := stJ X hx hZ eT Ar (j := j) hin (g := mkF m pc Ls (.long x :: .int j :: .ref a :: st)) rfl rfl hd
  exact own_st st' (k T' h' X' e' W' (Arv.set Ar q S N1 H G rfl W' i hi hl))
theorem own_stD (X : Stand p l e R s m args below meth c T locs cells slots) (hx : p.tables.exec = Jvm.exec) (hZ : Z.Warmed39 s.vm) (eT : T.heap = h) {a : Addr} {kA : ClassId} {n : Int32} {vs : List Value} {dv : Value} (F : Arv Z h a kA .double n vs dv) {j : Int32} {x : UInt64} (hj : ¬ j < 0 ∧ j < n) (i : Nat) (hi : j.toNatClampNeg = i) (hl : i < vs.length) (vs' : List Value) (hvs : vs.set i (.double x) = vs') (pc' : Nat) (hp : pc + 1 = pc') (hd : decode c.code pc = .ok (.dastore, 1))
    (k : ∀ T' h', Stand p l e R s m args below meth c T' (locs ++ [⟨a, j.toNatClampNeg⟩]) cells slots → T'.heap = h' → Wr h h' a j.toNatClampNeg (.double x) → Arv Z h' a kA .double n vs' dv → own_Go p e below Fe Q (T'.setTop (mkF m pc' Ls st))) : own_Go p e below Fe Q (T.setTop (mkF m pc Ls (.double x :: .int j :: .ref a :: st))) := by
  subst hp; subst hvs
  obtain ⟨cl, Ar, q, S, N1, H, G⟩ := F
  have hin := inb_of S hj
  obtain ⟨T', h', X', e', W', st'⟩ := stD X hx hZ eT Ar (j := j) hin (g := mkF m pc Ls (.double x :: .int j :: .ref a :: st)) rfl rfl hd
  exact own_st st' (k T' h' X' e' W' (Arv.set Ar q S N1 H G rfl W' i hi hl))
theorem own_stB (X : Stand p l e R s m args below meth c T locs cells slots) (hx : p.tables.exec = Jvm.exec) (hZ : Z.Warmed39 s.vm) (eT : T.heap = h) {a : Addr} {kA : ClassId} {n : Int32} {vs : List Value} {dv : Value} (F : Arv Z h a kA .byte n vs dv) {j : Int32} {x : Int32} (hj : ¬ j < 0 ∧ j < n) (i : Nat) (hi : j.toNatClampNeg = i) (hl : i < vs.length) (vs' : List Value) (hvs : vs.set i (.int x.toInt8.toInt32) = vs') (pc' : Nat) (hp : pc + 1 = pc') (hd : decode c.code pc = .ok (.bastore, 1))
    (k : ∀ T' h', Stand p l e R s m args below meth c T' (locs ++ [⟨a, j.toNatClampNeg⟩]) cells slots → T'.heap = h' → Wr h h' a j.toNatClampNeg (.int x.toInt8.toInt32) → Arv Z h' a kA .byte n vs' dv → own_Go p e below Fe Q (T'.setTop (mkF m pc' Ls st))) : own_Go p e below Fe Q (T.setTop (mkF m pc Ls (.int x :: .int j :: .ref a :: st))) := by
  subst hp; subst hvs
  obtain ⟨cl, Ar, q, S, N1, H, G⟩ := F
  have hin := inb_of S hj
  obtain ⟨T', h', X', e', W', st'⟩ := stB X hx hZ eT Ar (j := j) hin (g := mkF m pc Ls (.int x :: .int j :: .ref a :: st)) rfl rfl hd
  exact own_st st' (k T' h' X' e' W' (Arv.set Ar q S N1 H G (fits_nar_byte x) W' i hi hl))
theorem own_stZ (X : Stand p l e R s m args below meth c T locs cells slots) (hx : p.tables.exec = Jvm.exec) (hZ : Z.Warmed39 s.vm) (eT : T.heap = h) {a : Addr} {kA : ClassId} {n : Int32} {vs : List Value} {dv : Value} (F : Arv Z h a kA .boolean n vs dv) {j : Int32} {x : Int32} (hj : ¬ j < 0 ∧ j < n) (i : Nat) (hi : j.toNatClampNeg = i) (hl : i < vs.length) (vs' : List Value) (hvs : vs.set i (.int (nar .boolean x)) = vs') (pc' : Nat) (hp : pc + 1 = pc') (hd : decode c.code pc = .ok (.bastore, 1))
    (k : ∀ T' h', Stand p l e R s m args below meth c T' (locs ++ [⟨a, j.toNatClampNeg⟩]) cells slots → T'.heap = h' → Wr h h' a j.toNatClampNeg (.int (nar .boolean x)) → Arv Z h' a kA .boolean n vs' dv → own_Go p e below Fe Q (T'.setTop (mkF m pc' Ls st))) : own_Go p e below Fe Q (T.setTop (mkF m pc Ls (.int x :: .int j :: .ref a :: st))) := by
  subst hp; subst hvs
  obtain ⟨cl, Ar, q, S, N1, H, G⟩ := F
  have hin := inb_of S hj
  obtain ⟨T', h', X', e', W', st'⟩ := stZ X hx hZ eT Ar (j := j) hin (g := mkF m pc Ls (.int x :: .int j :: .ref a :: st)) rfl rfl hd
  exact own_st st' (k T' h' X' e' W' (Arv.set Ar q S N1 H G (fits_nar_bool x) W' i hi hl))
theorem own_stC (X : Stand p l e R s m args below meth c T locs cells slots) (hx : p.tables.exec = Jvm.exec) (hZ : Z.Warmed39 s.vm) (eT : T.heap = h) {a : Addr} {kA : ClassId} {n : Int32} {vs : List Value} {dv : Value} (F : Arv Z h a kA .char n vs dv) {j : Int32} {x : Int32} (hj : ¬ j < 0 ∧ j < n) (i : Nat) (hi : j.toNatClampNeg = i) (hl : i < vs.length) (vs' : List Value) (hvs : vs.set i (.int (nar .char x)) = vs') (pc' : Nat) (hp : pc + 1 = pc') (hd : decode c.code pc = .ok (.castore, 1))
    (k : ∀ T' h', Stand p l e R s m args below meth c T' (locs ++ [⟨a, j.toNatClampNeg⟩]) cells slots → T'.heap = h' → Wr h h' a j.toNatClampNeg (.int (nar .char x)) → Arv Z h' a kA .char n vs' dv → own_Go p e below Fe Q (T'.setTop (mkF m pc' Ls st))) : own_Go p e below Fe Q (T.setTop (mkF m pc Ls (.int x :: .int j :: .ref a :: st))) := by
  subst hp; subst hvs
  obtain ⟨cl, Ar, q, S, N1, H, G⟩ := F
  have hin := inb_of S hj
  obtain ⟨T', h', X', e', W', st'⟩ := stC X hx hZ eT Ar (j := j) hin (g := mkF m pc Ls (.int x :: .int j :: .ref a :: st)) rfl rfl hd
  exact own_st st' (k T' h' X' e' W' (Arv.set Ar q S N1 H G (fits_nar_char x) W' i hi hl))
theorem own_ldI (X : Stand p l e R s m args below meth c T locs cells slots) (hx : p.tables.exec = Jvm.exec) (hZ : Z.Warmed39 s.vm) (eT : T.heap = h) {a : Addr} {kA : ClassId} {n : Int32} {vs : List Value} {dv : Value} (F : Arv Z h a kA .int n vs dv) {j : Int32} (hj : ¬ j < 0 ∧ j < n) (x : Int32) (hv : vs.getD j.toNatClampNeg dv = (.int x)) (pc' : Nat) (hp : pc + 1 = pc') (hd : decode c.code pc = .ok (.iaload, 1))
    (k : own_Go p e below Fe Q (T.setTop (mkF m pc' Ls (.int x :: st)))) : own_Go p e below Fe Q (T.setTop (mkF m pc Ls (.int j :: .ref a :: st))) := by
  subst hp
  obtain ⟨cl, Ar, q, S, N1, H, G⟩ := F
  have hin := inb_of S hj
  exact own_st (X.iaload hx (j := j) (v := .int x) (by rw [eT]; exact Ar.1) (State.isArrayOf_alike hZ.alike Ar.2.1) Ar.2.2 hin (Has.at H hin hv) (g := mkF m pc Ls (.int j :: .ref a :: st)) rfl rfl hd) k
theorem own_ldD (X : Stand p l e R s m args below meth c T locs cells slots) (hx : p.tables.exec = Jvm.exec) (hZ : Z.Warmed39 s.vm) (eT : T.heap = h) {a : Addr} {kA : ClassId} {n : Int32} {vs : List Value} {dv : Value} (F : Arv Z h a kA .double n vs dv) {j : Int32} (hj : ¬ j < 0 ∧ j < n) (x : UInt64) (hv : vs.getD j.toNatClampNeg dv = (.double x)) (pc' : Nat) (hp : pc + 1 = pc') (hd : decode c.code pc = .ok (.daload, 1))
    (k : own_Go p e below Fe Q (T.setTop (mkF m pc' Ls (.double x :: st)))) : own_Go p e below Fe Q (T.setTop (mkF m pc Ls (.int j :: .ref a :: st))) := by
  subst hp
  obtain ⟨cl, Ar, q, S, N1, H, G⟩ := F
  have hin := inb_of S hj
  exact own_st (X.daload hx (j := j) (v := .double x) (by rw [eT]; exact Ar.1) (State.isArrayOf_alike hZ.alike Ar.2.1) Ar.2.2 hin (Has.at H hin hv) (g := mkF m pc Ls (.int j :: .ref a :: st)) rfl rfl hd) k
theorem own_ldJ (X : Stand p l e R s m args below meth c T locs cells slots) (hx : p.tables.exec = Jvm.exec) (hZ : Z.Warmed39 s.vm) (eT : T.heap = h) {a : Addr} {kA : ClassId} {n : Int32} {vs : List Value} {dv : Value} (F : Arv Z h a kA .long n vs dv) {j : Int32} (hj : ¬ j < 0 ∧ j < n) (x : Int64) (hv : vs.getD j.toNatClampNeg dv = (.long x)) (pc' : Nat) (hp : pc + 1 = pc') (hd : decode c.code pc = .ok (.laload, 1))
    (k : own_Go p e below Fe Q (T.setTop (mkF m pc' Ls (.long x :: st)))) : own_Go p e below Fe Q (T.setTop (mkF m pc Ls (.int j :: .ref a :: st))) := by
  subst hp
  obtain ⟨cl, Ar, q, S, N1, H, G⟩ := F
  have hin := inb_of S hj
  exact own_st (X.laload hx (j := j) (v := .long x) (by rw [eT]; exact Ar.1) (State.isArrayOf_alike hZ.alike Ar.2.1) Ar.2.2 hin (Has.at H hin hv) (g := mkF m pc Ls (.int j :: .ref a :: st)) rfl rfl hd) k
theorem own_len (X : Stand p l e R s m args below meth c T locs cells slots) (hx : p.tables.exec = Jvm.exec) (hZ : Z.Warmed39 s.vm) (eT : T.heap = h) {a : Addr} {kA : ClassId} {ty : FieldType} {n : Int32} {vs : List Value} {dv : Value} (F : Arv Z h a kA ty n vs dv) (pc' : Nat) (hp : pc + 1 = pc') (hd : decode c.code pc = .ok (.arraylength, 1))
    (k : own_Go p e below Fe Q (T.setTop (mkF m pc' Ls (.int n :: st)))) : own_Go p e below Fe Q (T.setTop (mkF m pc Ls (.ref a :: st))) := by
  subst hp
  obtain ⟨cl, Ar, q, S, N1, H, G⟩ := F
  refine own_st (X.arraylength hx (by rw [eT]; exact Ar.1) (State.isArrayOf_alike hZ.alike Ar.2.1) (g := mkF m pc Ls (.ref a :: st)) rfl rfl hd) ?_
  rw [len_of S N1]
  exact k
theorem own_initO (X : Stand p l e R s m args below meth c T locs cells slots) (hx : p.tables.exec = Jvm.exec) (hZ : Z.Warmed39 s.vm) {own : String} {idx : Nat} (hown : s.vm.findClass own = some m.cls) (w1 : (Jvm.Cond.methodLink own idx Lib.objectInit).before a0 Z = true) (w2 : (Jvm.Cond.instanceMethod Lib.objectInit).before a0 Z = true) (w3 : (Jvm.Cond.code Lib.objectInit ⟨#[0xb1]⟩ 1 none).before a0 Z = true) (eT : T.heap = h) (hsize : Ls.size = c.maxLocals) {a : Addr} (pc' : Nat) (hp : pc + 3 = pc') (hd : decode c.code pc = .ok (.invokespecial idx, 3)) (hf : 1 ≤ R.frames) (W : Nat) (hW : 2 * 0 + (st.map fun v => v.category).sum ≤ W) (hl : W + 12 ≤ R.locals)
    (k : ∀ T', Stand p l e R s m args below meth c T' locs cells slots → T'.heap = h → own_Go p e below Fe Q (T'.setTop (mkF m pc' Ls st))) : own_Go p e below Fe Q (T.setTop (mkF m pc Ls (.ref a :: st))) := by
  subst hp
  obtain ⟨T', X', e', st'⟩ := initO X hx hZ hown w1 w2 w3 eT (g := mkF m pc Ls (.ref a :: st)) rfl hsize rfl hd hf hW hl
  exact own_st st' (k T' X' e')
theorem own_callS (X : Stand p l e R s m args below meth c T locs cells slots) (hx : p.tables.exec = Jvm.exec) (hZ : Z.Warmed39 s.vm) {own : String} {index : Nat} {y : MethodName} (hown : s.vm.findClass own = some m.cls) (w1 : (Jvm.Cond.methodLink own index y).before a0 Z = true) (w2 : (Jvm.Cond.static y).before a0 Z = true) (hy : y.cls ≠ "java/lang/invoke/MethodHandle" ∧ y.cls ≠ "java/lang/invoke/VarHandle") {bytes : ByteArray} {maxL : Nat} {ret : Option FieldType} {rm : Room} {as' : Array Value} {Q' : Option Value → Heap → List Loc → Prop} (hM : MetFree l y (head1 [Jvm.Cond.code y bytes maxL ret] rm) (fun a U => a = as' ∧ Z.Warmed39 U.vm ∧ U.heap = h) (fun _ _ _ _ _ => True) (fun _ U o U' => ∃ v L, o = .returned v ∧ Q' v U'.heap L ∧ FrameEnd U o U' L rm.cells rm.slots)) (wc : (Jvm.Cond.code y bytes maxL ret).before a0 Z = true) (wz : (Jvm.Cond.initialized y.cls).before a0 Z = true) (hfr : rm.frames + 1 ≤ R.frames) (eT : T.heap = h) (hsize : Ls.size = c.maxLocals) (argsL : List Value) {rest : List Value} (W : Nat) (hlo : W + (maxL + 11) + rm.locals ≤ R.locals) (hW : 2 * 0 + (rest.map fun v => v.category).sum ≤ W) (hcells : cells + rm.cells ≤ R.cells) (hslots : slots + rm.slots ≤ R.slots) (hlen : ∀ sig, parseMethodDescriptor y.desc = some sig → argsL.length = sig.parameters.length) (hst : st = argsL.reverse ++ rest) (has : argsL.toArray = as') (pc' : Nat) (hp : pc + 3 = pc') (hd : decode c.code pc = .ok (.invokestatic index, 3))
    (k : ∀ v T' Lc, Stand p l e R s m args below meth c T' (locs ++ Lc) (cells + rm.cells) (slots + rm.slots) → Q' v T'.heap Lc → own_Go p e below Fe Q (T'.setTop (mkF m pc' Ls (v.toList ++ rest)))) : own_Go p e below Fe Q (T.setTop (mkF m pc Ls st)) := by
  subst hp
  obtain ⟨v, _, ⟨T', L', k', n'⟩, -, X', ⟨Lc, hQ, l1, l2, l3⟩, st'⟩ := Jvm.LawKit.callS X hx (y := y) hown (mvT hZ w1) (mvT hZ w2) (mvT hZ wz) (mvT hZ wc) hy (backOf (W := W) hM hZ wc wz hfr hlo) (g := mkF m pc Ls st) rfl hsize (argsL := argsL) (rest := rest) hlen hst hW hd (fun _ _ => ⟨has, eT, hcells, hslots⟩)
  dsimp only [Pt.U, Pt.locs, Pt.cells, Pt.slots] at X' l1 l2 l3 st' hQ
  subst l1 l2 l3
  exact own_st st' (k v T' Lc X' hQ)
theorem own_special (X : Stand p l e R s m args below meth c T locs cells slots) (hx : p.tables.exec = Jvm.exec) (hZ : Z.Warmed39 s.vm) {own : String} {index : Nat} {y : MethodName} (hown : s.vm.findClass own = some m.cls) (hy1 : y.name = "<init>") (w1 : (Jvm.Cond.methodLink own index y).before a0 Z = true) (w2 : (Jvm.Cond.instanceMethod y).before a0 Z = true) {a : Addr} (hy : y.cls ≠ "java/lang/invoke/MethodHandle" ∧ y.cls ≠ "java/lang/invoke/VarHandle") {bytes : ByteArray} {maxL : Nat} {ret : Option FieldType} {rm : Room} {as' : Array Value} {Q' : Option Value → Heap → List Loc → Prop} (hret : ret = none) (hM : MetFree l y (head1 [Jvm.Cond.code y bytes maxL ret] rm) (fun a U => a = as' ∧ Z.Warmed39 U.vm ∧ U.heap = h) (fun _ _ _ _ _ => True) (fun _ U o U' => ∃ v L, o = .returned v ∧ Q' v U'.heap L ∧ FrameEnd U o U' L rm.cells rm.slots)) (wc : (Jvm.Cond.code y bytes maxL ret).before a0 Z = true) (wz : (Jvm.Cond.initialized y.cls).before a0 Z = true) (hfr : rm.frames + 1 ≤ R.frames) (eT : T.heap = h) (hsize : Ls.size = c.maxLocals) (argsL : List Value) {rest : List Value} (W : Nat) (hlo : W + (maxL + 11) + rm.locals ≤ R.locals) (hW : 2 * 0 + (rest.map fun v => v.category).sum ≤ W) (hcells : cells + rm.cells ≤ R.cells) (hslots : slots + rm.slots ≤ R.slots) (hlen : ∀ sig, parseMethodDescriptor y.desc = some sig → argsL.length = sig.parameters.length) (hst : st = argsL.reverse ++ .ref a :: rest) (has : (.ref a :: argsL).toArray = as') (pc' : Nat) (hp : pc + 3 = pc') (hd : decode c.code pc = .ok (.invokespecial index, 3))
    (k : ∀ v T' Lc, Stand p l e R s m args below meth c T' (locs ++ Lc) (cells + rm.cells) (slots + rm.slots) → Q' v T'.heap Lc → own_Go p e below Fe Q (T'.setTop (mkF m pc' Ls (v.toList ++ rest)))) : own_Go p e below Fe Q (T.setTop (mkF m pc Ls st)) := by
  subst hp
  obtain ⟨v, _, ⟨T', L', k', n'⟩, -, X', ⟨Lc, hQ, l1, l2, l3⟩, st'⟩ := X.specialBack hx (y := y) hy1 hown (mvT hZ w1) (mvT hZ w2) (mvT hZ (hret ▸ wc)) hy (backOf (W := W) hM hZ wc wz hfr hlo) (g := mkF m pc Ls st) rfl hsize (Steps.refl _) (a := a) (argsL := argsL) (rest := rest) hlen hst hW hd (fun _ _ => ⟨has, eT, hcells, hslots⟩)
  dsimp only [Pt.U, Pt.locs, Pt.cells, Pt.slots] at X' l1 l2 l3 st' hQ
  subst l1 l2 l3
  exact own_tr st' (k v T' Lc X' hQ)
theorem own_virtual (X : Stand p l e R s m args below meth c T locs cells slots) (hx : p.tables.exec = Jvm.exec) (hZ : Z.Warmed39 s.vm) {own : String} {index : Nat} {C : String} {y z : MethodName} (hown : s.vm.findClass own = some m.cls) (w1 : (Jvm.Cond.methodLink own index y).before a0 Z = true) (w2 : (Jvm.Cond.declares y).before a0 Z = true) (w3 : (Jvm.Cond.selects C y z).before a0 Z = true) (w4 : (Jvm.Cond.instanceMethod z).before a0 Z = true) (hyz : y = z) {a : Addr} (E : Exa Z h a C) (hy : y.cls ≠ "java/lang/invoke/MethodHandle" ∧ y.cls ≠ "java/lang/invoke/VarHandle") {bytes : ByteArray} {maxL : Nat} {ret : Option FieldType} {rm : Room} {as' : Array Value} {Q' : Option Value → Heap → List Loc → Prop} (hM : MetFree l z (head1 [Jvm.Cond.code z bytes maxL ret] rm) (fun a U => a = as' ∧ Z.Warmed39 U.vm ∧ U.heap = h) (fun _ _ _ _ _ => True) (fun _ U o U' => ∃ v L, o = .returned v ∧ Q' v U'.heap L ∧ FrameEnd U o U' L rm.cells rm.slots)) (wc : (Jvm.Cond.code z bytes maxL ret).before a0 Z = true) (wz : (Jvm.Cond.initialized z.cls).before a0 Z = true) (hfr : rm.frames + 1 ≤ R.frames) (eT : T.heap = h) (hsize : Ls.size = c.maxLocals) (argsL : List Value) {rest : List Value} (W : Nat) (hlo : W + (maxL + 11) + rm.locals ≤ R.locals) (hW : 2 * 0 + (rest.map fun v => v.category).sum ≤ W) (hcells : cells + rm.cells ≤ R.cells) (hslots : slots + rm.slots ≤ R.slots) (hlen : ∀ sig, parseMethodDescriptor y.desc = some sig → argsL.length = sig.parameters.length) (hst : st = argsL.reverse ++ .ref a :: rest) (has : (.ref a :: argsL).toArray = as') (pc' : Nat) (hp : pc + 3 = pc') (hd : decode c.code pc = .ok (.invokevirtual index, 3))
    (k : ∀ v T' Lc, Stand p l e R s m args below meth c T' (locs ++ Lc) (cells + rm.cells) (slots + rm.slots) → Q' v T'.heap Lc → own_Go p e below Fe Q (T'.setTop (mkF m pc' Ls (v.toList ++ rest)))) : own_Go p e below Fe Q (T.setTop (mkF m pc Ls st)) := by
  subst hp
  obtain ⟨cB, kB, qa, qb, qc⟩ := isOf hZ eT E
  obtain ⟨v, _, ⟨T', L', k', n'⟩, -, X', ⟨Lc, hQ, l1, l2, l3⟩, st'⟩ := X.virtualBack hx (y := y) (z := z) hown (mvT hZ w1) (mvT hZ w2) (hyz ▸ notFace_of_selects (args := #[]) (mvT hZ (hyz ▸ w3 : (Jvm.Cond.selects C z z).before a0 Z = true))) (mvT hZ w3) (mvT hZ w4) hy (backOf (W := W) hM hZ wc wz hfr hlo) qa qc (g := mkF m pc Ls st) rfl hsize (Steps.refl _) (argsL := argsL) (rest := rest) hlen hst hW hd (fun _ _ => ⟨has, eT, hcells, hslots⟩)
  dsimp only [Pt.U, Pt.locs, Pt.cells, Pt.slots] at X' l1 l2 l3 st' hQ
  subst l1 l2 l3
  exact own_tr st' (k v T' Lc X' hQ)
theorem own_virtualUp (X : Stand p l e R s m args below meth c T locs cells slots) (hx : p.tables.exec = Jvm.exec) (hZ : Z.Warmed39 s.vm) {own : String} {index : Nat} {C owner : String} {x y : MethodName} (hown : s.vm.findClass own = some m.cls) (w1 : (Jvm.Cond.methodLink own index x).before a0 Z = true) (w2 : (Jvm.Cond.sameMethod x.cls owner x.name x.desc).before a0 Z = true) (w2' : (Jvm.Cond.declares ⟨owner, x.name, x.desc⟩).before a0 Z = true) (w3 : (Jvm.Cond.selects C x y).before a0 Z = true) (w4 : (Jvm.Cond.instanceMethod y).before a0 Z = true) {a : Addr} (E : Exa Z h a C) (ho : owner ≠ "java/lang/invoke/MethodHandle" ∧ owner ≠ "java/lang/invoke/VarHandle") {bytes : ByteArray} {maxL : Nat} {ret : Option FieldType} {rm : Room} {as' : Array Value} {Q' : Option Value → Heap → List Loc → Prop} (hM : MetFree l y (head1 [Jvm.Cond.code y bytes maxL ret] rm) (fun a U => a = as' ∧ Z.Warmed39 U.vm ∧ U.heap = h) (fun _ _ _ _ _ => True) (fun _ U o U' => ∃ v L, o = .returned v ∧ Q' v U'.heap L ∧ FrameEnd U o U' L rm.cells rm.slots)) (wc : (Jvm.Cond.code y bytes maxL ret).before a0 Z = true) (wz : (Jvm.Cond.initialized y.cls).before a0 Z = true) (hfr : rm.frames + 1 ≤ R.frames) (eT : T.heap = h) (hsize : Ls.size = c.maxLocals) (argsL : List Value) {rest : List Value} (W : Nat) (hlo : W + (maxL + 11) + rm.locals ≤ R.locals) (hW : 2 * 0 + (rest.map fun v => v.category).sum ≤ W) (hcells : cells + rm.cells ≤ R.cells) (hslots : slots + rm.slots ≤ R.slots) (hlen : ∀ sig, parseMethodDescriptor x.desc = some sig → argsL.length = sig.parameters.length) (hst : st = argsL.reverse ++ .ref a :: rest) (has : (.ref a :: argsL).toArray = as') (pc' : Nat) (hp : pc + 3 = pc') (hd : decode c.code pc = .ok (.invokevirtual index, 3))
    (k : ∀ v T' Lc, Stand p l e R s m args below meth c T' (locs ++ Lc) (cells + rm.cells) (slots + rm.slots) → Q' v T'.heap Lc → own_Go p e below Fe Q (T'.setTop (mkF m pc' Ls (v.toList ++ rest)))) : own_Go p e below Fe Q (T.setTop (mkF m pc Ls st)) := by
  subst hp
  obtain ⟨cB, kB, qa, qb, qc⟩ := isOf hZ eT E
  obtain ⟨v, _, ⟨T', L', k', n'⟩, -, X', ⟨Lc, hQ, l1, l2, l3⟩, st'⟩ := X.virtualBackUp hx (x := x) (y := y) (owner := owner) hown (mvT hZ w1) (mvT hZ w2) (mvT hZ w2') ho (mvT hZ w3) (mvT hZ w4) (backOf (W := W) hM hZ wc wz hfr hlo) qa qc (g := mkF m pc Ls st) rfl hsize (Steps.refl _) (argsL := argsL) (rest := rest) hlen hst hW hd (fun _ _ => ⟨has, eT, hcells, hslots⟩)
  dsimp only [Pt.U, Pt.locs, Pt.cells, Pt.slots] at X' l1 l2 l3 st' hQ
  subst l1 l2 l3
  exact own_tr st' (k v T' Lc X' hQ)
theorem own_private (X : Stand p l e R s m args below meth c T locs cells slots) (hx : p.tables.exec = Jvm.exec) (hZ : Z.Warmed39 s.vm) {own : String} {index : Nat} {y z : MethodName} (hown : s.vm.findClass own = some m.cls) (w1 : (Jvm.Cond.methodLink own index y).before a0 Z = true) (w2 : (Jvm.Cond.instanceMethod y).before a0 Z = true) (hz : z.cls = y.cls) (w3 : (Jvm.Cond.selects z.cls z z).before a0 Z = true) (w4 : (Jvm.Cond.privateMethod y).before a0 Z = true) {a : Addr} (E : Exa Z h a y.cls) (hy : y.cls ≠ "java/lang/invoke/MethodHandle" ∧ y.cls ≠ "java/lang/invoke/VarHandle") {bytes : ByteArray} {maxL : Nat} {ret : Option FieldType} {rm : Room} {as' : Array Value} {Q' : Option Value → Heap → List Loc → Prop} (hM : MetFree l y (head1 [Jvm.Cond.code y bytes maxL ret] rm) (fun a U => a = as' ∧ Z.Warmed39 U.vm ∧ U.heap = h) (fun _ _ _ _ _ => True) (fun _ U o U' => ∃ v L, o = .returned v ∧ Q' v U'.heap L ∧ FrameEnd U o U' L rm.cells rm.slots)) (wc : (Jvm.Cond.code y bytes maxL ret).before a0 Z = true) (wz : (Jvm.Cond.initialized y.cls).before a0 Z = true) (hfr : rm.frames + 1 ≤ R.frames) (eT : T.heap = h) (hsize : Ls.size = c.maxLocals) (argsL : List Value) {rest : List Value} (W : Nat) (hlo : W + (maxL + 11) + rm.locals ≤ R.locals) (hW : 2 * 0 + (rest.map fun v => v.category).sum ≤ W) (hcells : cells + rm.cells ≤ R.cells) (hslots : slots + rm.slots ≤ R.slots) (hlen : ∀ sig, parseMethodDescriptor y.desc = some sig → argsL.length = sig.parameters.length) (hst : st = argsL.reverse ++ .ref a :: rest) (has : (.ref a :: argsL).toArray = as') (pc' : Nat) (hp : pc + 3 = pc') (hd : decode c.code pc = .ok (.invokevirtual index, 3))
    (k : ∀ v T' Lc, Stand p l e R s m args below meth c T' (locs ++ Lc) (cells + rm.cells) (slots + rm.slots) → Q' v T'.heap Lc → own_Go p e below Fe Q (T'.setTop (mkF m pc' Ls (v.toList ++ rest)))) : own_Go p e below Fe Q (T.setTop (mkF m pc Ls st)) := by
  subst hp
  obtain ⟨cq, q1, q2⟩ := E.cell
  have hsel : (Jvm.Cond.selects y.cls y y).before args s = true := by
    obtain ⟨c2, r2, m2, -, -, q3, -, kP, hkP, hkPi⟩ := Cond.selects_spec (mvT hZ w3 : (Jvm.Cond.selects z.cls z z).before args s = true)
    exact selects_self_of_private (hz ▸ findClass_of_methodNamed q3) hkP hkPi (Cond.privateMethod_at (mvP hZ w4 (args := #[]))) (mvT hZ w2) hy
  obtain ⟨v, _, ⟨T', L', k', n'⟩, -, X', ⟨Lc, hQ, l1, l2, l3⟩, st'⟩ := X.privateBack hx (y := y) hown (mvT hZ w1) (mvT hZ w2) hsel (Cond.privateMethod_at (mvP hZ w4 (args := #[]))) (mvT hZ wc) hy (backOf (W := W) hM hZ wc wz hfr hlo) (g := mkF m pc Ls st) rfl hsize (Steps.refl _) (a := a) (by rw [eT]; exact q1) q2 (argsL := argsL) (rest := rest) hlen hst hW hd (fun _ _ => ⟨has, eT, hcells, hslots⟩)
  dsimp only [Pt.U, Pt.locs, Pt.cells, Pt.slots] at X' l1 l2 l3 st' hQ
  subst l1 l2 l3
  exact own_tr st' (k v T' Lc X' hQ)
theorem own_rawbits (X : Stand p l e R s m args below meth c T locs cells slots) (hx : p.tables.exec = Jvm.exec) (hZ : Z.Warmed39 s.vm) {own : String} {index : Nat} (hown : s.vm.findClass own = some m.cls) (w1 : (Jvm.Cond.methodLink own index doubleToRawLongBitsName).before a0 Z = true) (w2 : (Jvm.Cond.native doubleToRawLongBitsName).before a0 Z = true) (w3 : (Jvm.Cond.static doubleToRawLongBitsName).before a0 Z = true) (w4 : (Jvm.Cond.initialized "java/lang/Double").before a0 Z = true) (eT : T.heap = h) (hsize : Ls.size = c.maxLocals) {b : UInt64} (pc' : Nat) (hp : pc + 3 = pc') (hd : decode c.code pc = .ok (.invokestatic index, 3)) (hf : 1 ≤ R.frames) (W : Nat) (hW : 2 * 0 + (st.map fun v => v.category).sum ≤ W) (hl : W + 15 ≤ R.locals)
    (k : ∀ T', Stand p l e R s m args below meth c T' locs cells slots → T'.heap = h → own_Go p e below Fe Q (T'.setTop (mkF m pc' Ls (.long b.toInt64 :: st)))) : own_Go p e below Fe Q (T.setTop (mkF m pc Ls (.double b :: st))) := by
  subst hp
  obtain ⟨vm', X', st'⟩ := X.doubleToRawLongBits hx hown (mvT hZ w1) (mvT hZ w2) (mvT hZ w3) (mvT hZ w4) (g := mkF m pc Ls (.double b :: st)) rfl hsize (rest := st) (b := b) rfl hd hf (Nat.le_trans (Nat.add_le_add_right hW _) hl)
  exact own_st st' (k _ X' eT)
end OwnSteps
section OwnWide
variable {p : Program} {l : Launch} {e : Env} {R : Room} {s : State} {m : MethodId} {args : Array Value} {below : List Frame} {meth : Method} {c : Code} {T : State} {locs : List Loc} {cells slots : Nat} {Fe : Outcome → State → List Loc → Prop} {Q : Option Value → Heap → List Loc → Prop} {pc : Nat} {Ls : Array Slot} {st : List Value} {Z : State} {a0 : Array Value} {h : Heap}
/-- a String constant, opaque: the walk goes on over the start with the tables at hand -/
theorem own_ldcS (X : Stand p l e R s m args below meth c T locs cells slots) (hx : p.tables.exec = Jvm.exec) (hZ : Z.Warmed39 s.vm) {own text : String} {index : Nat} (hown : s.vm.findClass own = some m.cls) (w : (Jvm.Cond.stringLink own index text).before a0 Z = true) (wS : ∀ a ∈ Bundle.stringAtoms, a.before a0 Z = true) (eT : T.heap = h) (pc' : Nat) (hp : pc + 2 = pc') (hd : decode c.code pc = .ok (.ldc index, 2)) (n : Nat) (hn : 4 * text.toList.length ≤ n) (hbig : n ≤ 536870912) (hc : cells + 2 ≤ R.cells) (hl : slots + (n + 4) ≤ R.slots)
    (k : ∀ (a : Addr) T' h', Stand p l e R (s.setVm T'.vm) m args below meth c T' locs (cells + 2) (slots + (n + 4)) → T'.heap = h' → Ext h h' → s.Since T'.vm h'.size → Z.Warmed39 (s.setVm T'.vm).vm → (s.setVm T'.vm).vm.findClass own = some m.cls → own_Go p e below Fe Q (T'.setTop (mkF m pc' Ls (.ref a :: st)))) : own_Go p e below Fe Q (T.setTop (mkF m pc Ls st)) := by
  subst hp
  obtain ⟨a, T', X', hS', -, hb, -, -, st'⟩ := X.ldcColdN hx (own := own) hown (mvS hZ w) (fun d hd => by
    have q := wS d hd
    simp only [Bundle.stringAtoms, List.mem_cons, List.not_mem_nil, or_false] at hd
    rcases hd with rfl | rfl | rfl | rfl | rfl | rfl | rfl
    · exact mv hZ q
    · exact mv hZ q
    · exact mvA hZ q
    · exact mv hZ q
    · exact mv hZ q
    · exact mv hZ q
    · exact mv hZ q) (g := mkF m pc Ls st) rfl hd hn hbig hc hl
  subst eT
  exact own_st st' (k a T' _ X' rfl (ext_of hb) hS' (State.Warmed39.trans (t := s) hZ hS'.1) (by rw [show (s.setVm T'.vm).vm = T'.vm from rfl, hS'.1.alike.findClass]; exact hown))
theorem own_retW {vm1 : Vm} {n : Nat} (X : Stand p l e R (s.setVm vm1) m args below meth c T locs cells slots) (hS : s.Since vm1 n) (hn : n ≤ T.heap.size) {K N : Nat} {t : State} (v : Option Value) (hv : meth.sig.returnType = none → v = none) (hlocks : meth.locks = false) (hK : cells ≤ K) (hN : slots ≤ N) (hQ : Q v T.heap locs)
    (hs : ∀ fs : List Frame, (∀ (f : JFrame) (acts : List Action), f.method = m → f.locked = none → f.entered = [] → (doReturn e (T.setTop f) acts v).1 = T.setFrames fs) → Steps p.tables e below t (T.setFrames fs)) : own_Go p e below (fun o u L => ReturnedEndW s o u L K N) Q t := by
  obtain ⟨fs, hr, hrun, hended, h1, h2, h3, h4⟩ := X.leaveW hS hn (v := v) hv hlocks
  exact ⟨_, _, hs fs hr, hrun, hended, _, _, rfl, hQ, h1, h2, h3, h4.mono hK hN⟩
end OwnWide
theorem own_2 : own_is (4611686018427387904 : UInt64) 2 0 := by
  have e : FP.Core.val64 (4611686018427387904 : UInt64) = .fin false (4503599627370496) (-51) := by decide +kernel
  refine ⟨⟨_, _, _, e⟩, ?_⟩
  unfold own_z
  rw [e, own_U_eq]
  decide +kernel
theorem own_4 : own_is (4616189618054758400 : UInt64) 4 0 := by
  have e : FP.Core.val64 (4616189618054758400 : UInt64) = .fin false (4503599627370496) (-50) := by decide +kernel
  refine ⟨⟨_, _, _, e⟩, ?_⟩
  unfold own_z
  rw [e, own_U_eq]
  decide +kernel
theorem own_10 : own_is (4621819117588971520 : UInt64) 10 0 := by
  have e : FP.Core.val64 (4621819117588971520 : UInt64) = .fin false (5629499534213120) (-49) := by decide +kernel
  refine ⟨⟨_, _, _, e⟩, ?_⟩
  unfold own_z
  rw [e, own_U_eq]
  decide +kernel
theorem own_100 : own_is (4636737291354636288 : UInt64) 100 0 := by
  have e : FP.Core.val64 (4636737291354636288 : UInt64) = .fin false (7036874417766400) (-46) := by decide +kernel
  refine ⟨⟨_, _, _, e⟩, ?_⟩
  unfold own_z
  rw [e, own_U_eq]
  decide +kernel
theorem own_big : own_is (4877398396442247168 : UInt64) 1152921504606846976 0 := by
  have e : FP.Core.val64 (4877398396442247168 : UInt64) = .fin false (4503599627370496) (8) := by decide +kernel
  refine ⟨⟨_, _, _, e⟩, ?_⟩
  unfold own_z
  rw [e, own_U_eq]
  decide +kernel
theorem own_inf_val : FP.Core.val64 (9218868437227405312 : UInt64) = .inf false := by decide +kernel
/-- what is above nought, divided by nought, is the infinity -/
theorem own_div0 {x : UInt64} (hx : FP.Core.DFin x) (px : 0 < own_z x) : FP.Core.val64 (FP.ddiv x FP.dconst0) = .inf false := by
  obtain ⟨s, c, q, e⟩ := hx
  rw [own_zv e] at px
  have s0 := own_pos_sign px
  have c0 : c ≠ 0 := fun k => by rw [k, Nat.zero_mul, FP.Core.signed_zero] at px; exact Int.lt_irrefl _ px
  show FP.Core.val64 (FP.Core.ddiv x FP.Core.dconst0) = _
  rw [FP.Core.val64_ddiv, e, FP.Core.val64_dconst0, s0]
  have k : FP.Core.quotient FP.Core.b64 (.fin false c q) (.fin false 0 FP.Core.b64.qmin) = (if c = 0 then FP.Core.Datum.nan else .inf (false != false)) := by unfold FP.Core.quotient; exact if_pos rfl
  rw [k, if_neg c0]; rfl
theorem own_lit100 : ((100 : Int32)).toInt = 100 := by decide
def own_k (a : Int32) : Int32 := (a &&& (2147483647 : Int32)) % (7 : Int32)
def own_D (a : Int32) : Int32 := (1 : Int32) <<< (own_k a &&& 31)
theorem own_k_cases (a : Int32) : ∃ j : Nat, j ≤ 6 ∧ own_k a = Int32.ofNat j := by
  have h0 := c_mask a 2147483647 31 (by decide) (by decide)
  have h1 : ((7 : Int32)).toInt = 7 := by decide
  have h2 := (c_iremV (a &&& (2147483647 : Int32)) (7 : Int32)).1 (by omega) (by omega)
  refine ⟨(own_k a).toInt.toNat, ?_, ?_⟩
  · unfold own_k; omega
  · have h3 : 0 ≤ (own_k a).toInt ∧ (own_k a).toInt < 7 := by unfold own_k; omega
    generalize own_k a = z at *
    have : z = 0 ∨ z = 1 ∨ z = 2 ∨ z = 3 ∨ z = 4 ∨ z = 5 ∨ z = 6 := by
      have c0 : ((0 : Int32)).toInt = 0 := by decide
      have c1 : ((1 : Int32)).toInt = 1 := by decide
      have c2 : ((2 : Int32)).toInt = 2 := by decide
      have c3 : ((3 : Int32)).toInt = 3 := by decide
      have c4 : ((4 : Int32)).toInt = 4 := by decide
      have c5 : ((5 : Int32)).toInt = 5 := by decide
      have c6 : ((6 : Int32)).toInt = 6 := by decide
      simp only [← Int32.toInt_inj]
      omega
    rcases this with rfl | rfl | rfl | rfl | rfl | rfl | rfl <;> decide
theorem own_D_pow (a : Int32) : ∃ κ : Nat, κ ≤ 6 ∧ (own_D a).toInt = ((2 ^ κ : Nat) : Int) := by
  obtain ⟨j, h, e⟩ := own_k_cases a
  refine ⟨j, h, ?_⟩
  unfold own_D
  rw [e]
  match j, h with
  | 0, _ => decide
  | 1, _ => decide
  | 2, _ => decide
  | 3, _ => decide
  | 4, _ => decide
  | 5, _ => decide
  | 6, _ => decide
theorem own_D_rng (a : Int32) : 1 ≤ (own_D a).toInt ∧ (own_D a).toInt ≤ 64 := by
  obtain ⟨κ, h, e⟩ := own_D_pow a
  rw [e]
  match κ, h with
  | 0, _ => decide
  | 1, _ => decide
  | 2, _ => decide
  | 3, _ => decide
  | 4, _ => decide
  | 5, _ => decide
  | 6, _ => decide
theorem own_D_nz (a : Int32) : own_D a ≠ 0 := fun e => by
  have h := own_D_rng a
  rw [e] at h
  have : ((0 : Int32)).toInt = 0 := by decide
  omega
def own_q (a : Int32) : Int32 := (100 : Int32) / own_D a
theorem own_q_val (a : Int32) : (own_q a).toInt = 100 / (own_D a).toInt := by
  have h := own_D_rng a
  have h0 := own_lit100
  have k := (c_idiv 100 (own_D a) (own_D a).toInt rfl (fun e => by
    rw [e] at h
    have : ((-1 : Int32)).toInt = -1 := by decide
    omega)).1 (by omega)
  unfold own_q
  rw [k, h0]
theorem own_q_rng (a : Int32) : 1 ≤ (own_q a).toInt ∧ (own_q a).toInt ≤ 100 := by
  rw [own_q_val]
  have h := own_D_rng a
  constructor
  · exact (Int.le_ediv_iff_mul_le (by omega)).mpr (by omega)
  · exact Int.ediv_le_self _ (by omega)
def own_q1 (a : Int32) : Int32 := own_q a + (1 : Int32)
theorem own_q1_val (a : Int32) : (own_q1 a).toInt = (own_q a).toInt + 1 := by
  have h := own_q_rng a
  have h0 : ((1 : Int32)).toInt = 1 := by decide
  have h1 := c_iadd (own_q a) 1
  have h2 := rng32 (own_q a + (1 : Int32))
  unfold own_q1
  omega
theorem own_q1_nz (a : Int32) : own_q1 a ≠ 0 := fun e => by
  have h := own_q1_val a
  have h1 := own_q_rng a
  rw [e] at h
  have : ((0 : Int32)).toInt = 0 := by decide
  omega
def own_s (a b : Int32) : Int32 := (b &&& (2147483647 : Int32)) % own_q1 a
theorem own_s_rng (a b : Int32) : 0 ≤ (own_s a b).toInt ∧ (own_s a b).toInt ≤ 100 ∧ (own_s a b).toInt * (own_D a).toInt ≤ 100 := by
  have h0 := c_mask b 2147483647 31 (by decide) (by decide)
  have h1 := own_q_rng a
  have h2 := own_q1_val a
  have h3 := (c_iremV (b &&& (2147483647 : Int32)) (own_q1 a)).1 (by omega) (by omega)
  have h4 : 0 ≤ (own_s a b).toInt ∧ (own_s a b).toInt ≤ (own_q a).toInt := by unfold own_s; omega
  refine ⟨h4.1, by omega, ?_⟩
  have h5 := own_D_rng a
  refine (Int.le_ediv_iff_mul_le (by omega)).mp ?_
  rw [← own_q_val]; exact h4.2
def own_4D (a : Int32) : Int32 := (4 : Int32) * own_D a
theorem own_4D_val (a : Int32) : (own_4D a).toInt = 4 * (own_D a).toInt := by
  have h := own_D_rng a
  have h0 : ((4 : Int32)).toInt = 4 := by decide
  have h1 := c_imul 4 (own_D a)
  have h2 := rng32 ((4 : Int32) * own_D a)
  unfold own_4D
  rw [h0] at h1
  omega
theorem own_4D_nz (a : Int32) : own_4D a ≠ 0 := fun e => by
  have h := own_4D_val a
  have h1 := own_D_rng a
  rw [e] at h
  have : ((0 : Int32)).toInt = 0 := by decide
  omega
def own_r (a c : Int32) : Int32 := (c &&& (2147483647 : Int32)) % own_4D a
theorem own_r_rng (a c : Int32) : 0 ≤ (own_r a c).toInt ∧ (own_r a c).toInt < 4 * (own_D a).toInt := by
  have h0 := c_mask c 2147483647 31 (by decide) (by decide)
  have h1 := own_D_rng a
  have h2 := own_4D_val a
  have h3 := (c_iremV (c &&& (2147483647 : Int32)) (own_4D a)).1 (by omega) (by omega)
  unfold own_r; omega
def own_v (d : Int32) : Int64 := (d % (1048576 : Int32)).toInt64
theorem own_v_rng (d : Int32) : -1048575 ≤ (own_v d).toInt ∧ (own_v d).toInt ≤ 1048575 := by
  unfold own_v
  rw [c_i2l]
  have h1 : ((1048576 : Int32)).toInt = 1048576 := by decide
  obtain ⟨p, q⟩ := c_irem d 1048576 1048576 h1
  rcases Int.lt_or_le d.toInt 0 with h | h
  · rw [q h]; omega
  · rw [p h]; omega
theorem own_vv_rng (d : Int32) : 0 ≤ (own_v d).toInt * (own_v d).toInt ∧ (own_v d).toInt * (own_v d).toInt ≤ 1099509530625 := by
  have h := own_v_rng d
  generalize (own_v d).toInt = z at *
  rcases Int.lt_or_le z 0 with k | k
  · have e : z * z = (-z) * (-z) := by rw [Int.neg_mul_neg]
    rw [e]
    refine ⟨Int.mul_nonneg (by omega) (by omega), ?_⟩
    exact Int.le_trans (Int.mul_le_mul (show -z ≤ 1048575 by omega) (show -z ≤ 1048575 by omega) (by omega) (by omega)) (by decide)
  · refine ⟨Int.mul_nonneg k k, ?_⟩
    exact Int.le_trans (Int.mul_le_mul h.2 h.2 k (by omega)) (by decide)
/-- how much s * r can be -/
theorem own_sr (a b c : Int32) : 0 ≤ (own_s a b).toInt * (own_r a c).toInt ∧ (own_s a b).toInt * (own_r a c).toInt ≤ 400 := by
  have h1 := own_s_rng a b
  have h2 := own_r_rng a c
  refine ⟨Int.mul_nonneg h1.1 h2.1, ?_⟩
  have h3 := Int.mul_le_mul_of_nonneg_left (Int.le_of_lt h2.2) h1.1
  have h4 : (own_s a b).toInt * (4 * (own_D a).toInt) = 4 * ((own_s a b).toInt * (own_D a).toInt) := by ac_rfl
  omega
section OwnLaw
variable (a b c d : Int32)
def own_base : UInt64 := FP.i2d ((100 : Int32) - own_s a b * own_D a)
theorem own_base_is : own_is (own_base a b) (100 - (own_s a b).toInt * (own_D a).toInt) 0 := by
  have h := own_s_rng a b
  have h5 := own_D_rng a
  have h6 := Int.mul_nonneg h.1 (show 0 ≤ (own_D a).toInt by omega)
  have h0 := own_lit100
  have h1 := c_imul (own_s a b) (own_D a)
  have h2 := rng32 (own_s a b * own_D a)
  have h3 := c_isub 100 (own_s a b * own_D a)
  have h4 := rng32 ((100 : Int32) - own_s a b * own_D a)
  have e : ((100 : Int32) - own_s a b * own_D a).toInt = 100 - (own_s a b).toInt * (own_D a).toInt := by omega
  rw [← e]; exact own_is.i2d _
def own_cap : UInt64 := FP.dsub (4636737291354636288 : UInt64) (own_base a b)
theorem own_cap_is : own_is (own_cap a b) ((own_s a b).toInt * (own_D a).toInt) 0 := by
  have h := own_s_rng a b
  have h5 := own_D_rng a
  have h6 := Int.mul_nonneg h.1 (show 0 ≤ (own_D a).toInt by omega)
  have k := own_is.sub own_100 (own_base_is a b) (by omega) (by decide)
  rw [show (100 - (100 - (own_s a b).toInt * (own_D a).toInt)) = (own_s a b).toInt * (own_D a).toInt by omega] at k
  exact k
def own_sat : UInt64 := FP.ddiv (own_cap a b) (FP.i2d (own_s a b))
theorem own_sat_is (h0 : ¬ own_s a b = 0) : own_is (own_sat a b) (own_D a).toInt 0 := by
  have h := own_s_rng a b
  have h5 := own_D_rng a
  have hp : 0 < (own_s a b).toInt := by
    have z : ((0 : Int32)).toInt = 0 := by decide
    have : (own_s a b).toInt ≠ 0 := fun q => h0 (Int32.toInt_inj.mp (q.trans z.symm))
    omega
  exact own_is.div (own_cap_is a b) (own_is.i2d _) (Int.mul_nonneg h.1 (by omega)) hp (by omega) (by decide) (by ac_rfl)
def own_capz : UInt64 := FP.dsub (4636737291354636288 : UInt64) (FP.i2d (own_D a))
theorem own_capz_is : own_is (own_capz a) (100 - (own_D a).toInt) 0 := own_is.sub own_100 (own_is.i2d _) (by have := own_D_rng a; omega) (by decide)
def own_satz : UInt64 := FP.ddiv (own_capz a) (FP.i2d (own_s a b))
theorem own_satz_inf (h0 : own_s a b = 0) : FP.Core.val64 (own_satz a b) = .inf false := by
  have e : FP.i2d (0 : Int32) = FP.dconst0 := by decide +kernel
  unfold own_satz
  rw [h0, e]
  exact own_div0 (own_capz_is a).1 ((own_capz_is a).pos (by have := own_D_rng a; omega))
def own_rate : UInt64 := FP.ddiv (FP.i2d (own_r a c)) (4616189618054758400 : UInt64)
theorem own_rate_is : own_is (own_rate a c) (own_r a c).toInt 2 := own_is.div (own_is.i2d _) own_4 (own_r_rng a c).1 (by decide) (by have := own_r_rng a c; have := own_D_rng a; omega) (by decide) (by show _ * (1 : Int) * 4 = _ * 4 * (1 : Int); omega)
theorem own_load_is (h0 : ¬ own_s a b = 0) {κ : Nat} (hκ : κ ≤ 6) (e : (own_D a).toInt = ((2 ^ κ : Nat) : Int)) : own_is (FP.ddiv (own_rate a c) (own_sat a b)) (own_r a c).toInt (2 + κ) := by
  have h1 := own_r_rng a c
  have h2 := own_D_rng a
  refine own_is.div (own_rate_is a c) (own_sat_is a b h0) h1.1 (by omega) (by omega) (by omega) ?_
  rw [e, Nat.pow_add, Int.natCast_mul]
  show _ * (1 : Int) * _ = _
  rw [Int.mul_one]; ac_rfl
theorem own_loadz_is (h0 : own_s a b = 0) : own_is (FP.ddiv (own_rate a c) (own_satz a b)) 0 0 := own_div_inf (own_rate_is a c).1 (own_satz_inf a b h0)
/-- execution -/
def own_ex : UInt64 := FP.dmul (FP.i2d (own_s a b)) (4621819117588971520 : UInt64)
theorem own_ex_is : own_is (own_ex a b) ((own_s a b).toInt * 10) 0 := own_is.mul (own_is.i2d _) own_10 (by have := own_s_rng a b; omega) (by decide)
def own_vd : UInt64 := FP.l2d (own_v d)
theorem own_vd_is : own_is (own_vd d) (own_v d).toInt 0 := own_is.l2d (by have := own_v_rng d; omega)
theorem own_v2_is : own_is (FP.dmul (own_vd d) (own_vd d)) ((own_v d).toInt * (own_v d).toInt) 0 := own_is.mul (own_vd_is d) (own_vd_is d) (by have := own_vv_rng d; omega) (by decide)
theorem own_v21_is : own_is (FP.dadd FP.dconst1 (FP.dmul (own_vd d) (own_vd d))) (1 + (own_v d).toInt * (own_v d).toInt) 0 := own_is.add own_is.one (own_v2_is d) (by have := own_vv_rng d; omega) (by decide)
/-- the law's own sums -/
def own_N : Int64 := (((10 : Int64) * (own_s a b).toInt64) * (own_r a c).toInt64) * ((1 : Int64) + own_v d * own_v d)
theorem own_N_val : (own_N a b c d).toInt = (10 * ((own_s a b).toInt * (own_r a c).toInt)) * (1 + (own_v d).toInt * (own_v d).toInt) := by
  have h1 := own_s_rng a b
  have h2 := own_r_rng a c
  have h3 := own_sr a b c
  have h4 := own_vv_rng d
  have h5 := own_D_rng a
  have z10 : ((10 : Int64)).toInt = 10 := by decide
  have z1 : ((1 : Int64)).toInt = 1 := by decide
  have e1 : ((10 : Int64) * (own_s a b).toInt64).toInt = 10 * (own_s a b).toInt := by
    have k1 := c_lmul 10 (own_s a b).toInt64
    have k2 := rng64 ((10 : Int64) * (own_s a b).toInt64)
    rw [z10, c_i2l] at k1; omega
  have e2 : (((10 : Int64) * (own_s a b).toInt64) * (own_r a c).toInt64).toInt = 10 * ((own_s a b).toInt * (own_r a c).toInt) := by
    have k1 := c_lmul ((10 : Int64) * (own_s a b).toInt64) (own_r a c).toInt64
    have k2 := rng64 (((10 : Int64) * (own_s a b).toInt64) * (own_r a c).toInt64)
    rw [e1, c_i2l, Int.mul_assoc] at k1; omega
  have e3 : (own_v d * own_v d).toInt = (own_v d).toInt * (own_v d).toInt := by
    have k1 := c_lmul (own_v d) (own_v d)
    have k2 := rng64 (own_v d * own_v d)
    omega
  have e4 : ((1 : Int64) + own_v d * own_v d).toInt = 1 + (own_v d).toInt * (own_v d).toInt := by
    have k1 := c_ladd 1 (own_v d * own_v d)
    have k2 := rng64 ((1 : Int64) + own_v d * own_v d)
    omega
  have b1 : 0 ≤ (10 * ((own_s a b).toInt * (own_r a c).toInt)) * (1 + (own_v d).toInt * (own_v d).toInt) := Int.mul_nonneg (by omega) (by omega)
  have b2 : (10 * ((own_s a b).toInt * (own_r a c).toInt)) * (1 + (own_v d).toInt * (own_v d).toInt) ≤ 4000 * 1099509530626 := Int.mul_le_mul (by omega) (by omega) (by omega) (by omega)
  have k1 := c_lmul (((10 : Int64) * (own_s a b).toInt64) * (own_r a c).toInt64) ((1 : Int64) + own_v d * own_v d)
  have k2 := rng64 (own_N a b c d)
  unfold own_N at *
  rw [e2, e4] at k1
  omega
theorem own_N_rng : 0 ≤ (own_N a b c d).toInt ∧ (own_N a b c d).toInt ≤ 4398038122504000 := by
  have h3 := own_sr a b c
  have h4 := own_vv_rng d
  rw [own_N_val]
  exact ⟨Int.mul_nonneg (by omega) (by omega), Int.le_trans (Int.mul_le_mul (show 10 * ((own_s a b).toInt * (own_r a c).toInt) ≤ 4000 by omega) (show 1 + (own_v d).toInt * (own_v d).toInt ≤ 1099509530626 by omega) (by omega) (by omega)) (by decide)⟩
def own_M : Int64 := (2 : Int64) * (((4 : Int64) * (own_D a).toInt64) - (own_r a c).toInt64)
theorem own_M_val : (own_M a c).toInt = 2 * (4 * (own_D a).toInt - (own_r a c).toInt) := by
  have h2 := own_r_rng a c
  have h5 := own_D_rng a
  have z4 : ((4 : Int64)).toInt = 4 := by decide
  have z2 : ((2 : Int64)).toInt = 2 := by decide
  have k1 := c_lmul 4 (own_D a).toInt64
  have k2 := rng64 ((4 : Int64) * (own_D a).toInt64)
  have k3 := c_lsub ((4 : Int64) * (own_D a).toInt64) (own_r a c).toInt64
  have k4 := rng64 (((4 : Int64) * (own_D a).toInt64) - (own_r a c).toInt64)
  have k5 := c_lmul 2 (((4 : Int64) * (own_D a).toInt64) - (own_r a c).toInt64)
  have k6 := rng64 ((2 : Int64) * (((4 : Int64) * (own_D a).toInt64) - (own_r a c).toInt64))
  rw [z4, c_i2l] at k1
  rw [c_i2l] at k3
  rw [z2] at k5
  unfold own_M
  omega
def own_Nd : UInt64 := FP.l2d (own_N a b c d)
def own_Md : UInt64 := FP.l2d (own_M a c)
theorem own_Nd_is : own_is (own_Nd a b c d) (own_N a b c d).toInt 0 := own_is.l2d (by have := own_N_rng a b c d; omega)
theorem own_Md_is : own_is (own_Md a c) (own_M a c).toInt 0 := own_is.l2d (by have := own_M_val a c; have := own_r_rng a c; have := own_D_rng a; omega)
theorem own_M_pos : 0 < (own_M a c).toInt := by have := own_M_val a c; have := own_r_rng a c; omega
def own_W : UInt64 := FP.ddiv (own_Nd a b c d) (own_Md a c)
theorem own_W_fin : FP.Core.val64 (own_W a b c d) ≠ .nan ∧ 0 ≤ own_z (own_W a b c d) ∧ FP.Core.DFin (own_W a b c d) :=
  own_is.div_fin (own_Nd_is a b c d) (own_Md_is a c) (own_N_rng a b c d).1 (own_M_pos a c) own_big (by decide) (by have := own_N_rng a b c d; have := own_M_pos a c; omega)
def own_ex2 : UInt64 := FP.dmul (4621819117588971520 : UInt64) (FP.i2d (own_s a b))
theorem own_ex2_is : own_is (own_ex2 a b) (10 * (own_s a b).toInt) 0 := own_is.mul own_10 (own_is.i2d _) (by have := own_s_rng a b; omega) (by decide)
def own_want : UInt64 := FP.dadd (own_ex2 a b) (own_W a b c d)
theorem own_want_nn : FP.Core.val64 (own_want a b c d) ≠ .nan := own_dadd_nn (own_ex2_is a b).1 (own_W_fin a b c d).2.2 (by have := (own_ex2_is a b).nonneg (by have := own_s_rng a b; omega); have := (own_W_fin a b c d).2.1; omega)
/-- what response computes of the load L -/
def own_le (L : UInt64) : UInt64 := FP.dmul L (own_ex a b)
def own_num (L : UInt64) : UInt64 := FP.dmul (own_le a b L) (FP.dadd FP.dconst1 (FP.dmul (own_vd d) (own_vd d)))
def own_free (L : UInt64) : UInt64 := FP.dsub FP.dconst1 L
def own_den (L : UInt64) : UInt64 := FP.dmul (4611686018427387904 : UInt64) (own_free L)
def own_wait (L : UInt64) : UInt64 := FP.ddiv (own_num a b d L) (own_den L)
def own_resp (L : UInt64) : UInt64 := FP.dadd (own_ex a b) (own_wait a b d L)
theorem own_all {L : UInt64} {ρ : Int} {κ : Nat} (hL : own_is L ρ (2 + κ)) (hκ : κ ≤ 6) (e : (own_D a).toInt = ((2 ^ κ : Nat) : Int)) (h0 : 0 ≤ ρ) (h1 : ρ < 4 * (own_D a).toInt) (h2 : (own_s a b).toInt * ρ = (own_s a b).toInt * (own_r a c).toInt) :
    NoNaN64 (own_le a b L) ∧ NoNaN64 (own_num a b d L) ∧ NoNaN64 (own_free L) ∧ NoNaN64 (own_den L) ∧ NoNaN64 (own_wait a b d L) ∧ NoNaN64 (own_resp a b d L) ∧ cmpValue (FP.dcmp (own_resp a b d L) (own_want a b c d)) .l = 0 := by
  have hs := own_s_rng a b
  have hr := own_r_rng a c
  have hD := own_D_rng a
  have hsr := own_sr a b c
  have hv := own_vv_rng d
  have hle : own_is (own_le a b L) (ρ * ((own_s a b).toInt * 10)) (2 + κ) := own_is.mul (k := 2 + κ) (j := 0) hL (own_ex_is a b) (by
    rw [show ρ * ((own_s a b).toInt * 10) = ((own_s a b).toInt * ρ) * 10 by ac_rfl, h2]; omega) (by omega)
  have eN : ρ * ((own_s a b).toInt * 10) * (1 + (own_v d).toInt * (own_v d).toInt) = (own_N a b c d).toInt := by
    rw [own_N_val, show ρ * ((own_s a b).toInt * 10) = 10 * ((own_s a b).toInt * ρ) by ac_rfl, h2]
  have hnum : own_is (own_num a b d L) (own_N a b c d).toInt (2 + κ) := by
    rw [← eN]
    exact own_is.mul (k := 2 + κ) (j := 0) hle (own_v21_is d) (by rw [eN]; have := own_N_rng a b c d; omega) (by omega)
  have hone := own_is.one.scale (2 + κ)
  rw [Nat.zero_add, Int.one_mul, show ((2 ^ (2 + κ) : Nat) : Int) = 4 * (own_D a).toInt by rw [e, Nat.pow_add, Int.natCast_mul]; rfl] at hone
  have hfree : own_is (own_free L) (4 * (own_D a).toInt - ρ) (2 + κ) := own_is.sub hone hL (by omega) (by omega)
  have hden : own_is (own_den L) (2 * (4 * (own_D a).toInt - ρ)) (2 + κ) := by
    have k := own_is.mul (k := 0) (j := 2 + κ) own_2 hfree (by omega) (by omega)
    rw [Nat.zero_add] at k
    exact k
  have hw : FP.Core.val64 (own_wait a b d L) ≠ .nan ∧ 0 ≤ own_z (own_wait a b d L) ∧ FP.Core.DFin (own_wait a b d L) := own_is.div_fin hnum hden (own_N_rng a b c d).1 (by omega) own_big (by decide) (by have := own_N_rng a b c d; omega)
  have ex0 : 0 ≤ own_z (own_ex a b) := (own_ex_is a b).nonneg (by omega)
  have hresp : FP.Core.val64 (own_resp a b d L) ≠ .nan := own_dadd_nn (own_ex_is a b).1 hw.2.2 (by have := hw.2.1; omega)
  refine ⟨hle.nn, hnum.nn, hfree.nn, hden.nn, own_nn_of hw.1, own_nn_of hresp, own_cmp_eq hresp (own_want_nn a b c d) ?_ .l⟩
  refine own_dadd_same (own_ex_is a b).1 hw.2.2 (own_ex2_is a b).1 (own_W_fin a b c d).2.2 (by have := hw.2.1; omega) (((own_ex_is a b).eq_iff (own_ex2_is a b)).mpr (Int.mul_comm _ _)) ?_
  refine own_is.div_same hnum hden (own_Nd_is a b c d) (own_Md_is a c) (own_N_rng a b c d).1 (by omega) (own_N_rng a b c d).1 (own_M_pos a c) ?_
  rcases Decidable.em ((own_s a b).toInt = 0) with z | z
  · have : (own_N a b c d).toInt = 0 := by rw [own_N_val, z]; simp
    rw [this]; simp
  · rw [own_M_val, Int.eq_of_mul_eq_mul_left z h2]
end OwnLaw
theorem own_zero_scale {x : UInt64} (h : own_is x 0 0) (k : Nat) : own_is x 0 k := by
  have q := h.scale k
  rw [Int.zero_mul, Nat.zero_add] at q
  exact q
theorem own_pn0 : plainName "java/lang/Record" = true := by first | (simp [plainName, overriddenIn]; done) | decide +kernel
theorem own_ef_rm_rec (m : MethodId) (o : Addr) : entryFrame m #[(.ref o)] 1 = mkF m 0 #[.val (.ref o)] [] := by first | (simp [entryFrame, mkF, argsToLocals, Value.category]; done) | rfl
def Q_rm_rec (Z : State) (o : Addr) (h0 : Heap) (n0 : Nat) (v : Option Value) (h : Heap) (L : List Loc) : Prop := v = none ∧ Fr n0 L ∧ h = h0
theorem own_d2_0 : decode jdk_30_method_1_code 0 = .ok (.aload_n 0, 1) := by decide +kernel
theorem own_d2_1 : decode jdk_30_method_1_code 1 = .ok (.invokespecial 1, 3) := by decide +kernel
theorem own_d2_4 : decode jdk_30_method_1_code 4 = .ok (.return_, 1) := by decide +kernel
set_option maxRecDepth 65536 in
set_option maxHeartbeats 40000000 in
theorem rm_rec (l : Launch) (Z : State) (a0 : Array Value) (hw : ∀ d ∈ tables_1, d.before a0 Z = true) (ws : List Jvm.Cond) (o : Addr) (h0 : Heap) (n0 : Nat) (Z0 : n0 ≤ h0.size)  :
    MetFree l (⟨"java/lang/Record", "<init>", "()V"⟩ : MethodName) (head1 (Jvm.Cond.code (⟨"java/lang/Record", "<init>", "()V"⟩ : MethodName) jdk_30_method_1_code 1 none :: ws) ({ frames := 1, cells := 0, slots := 0, locals := 12 } : Room)) (fun aa U => aa = #[(.ref o)] ∧ Z.Warmed39 U.vm ∧ U.heap = h0) (fun _ _ _ _ _ => True) (fun _ U ou U' => ∃ v L, ou = .returned v ∧ Q_rm_rec Z o h0 n0 v U'.heap L ∧ FrameEnd U ou U' L ({ frames := 1, cells := 0, slots := 0, locals := 12 } : Room).cells ({ frames := 1, cells := 0, slots := 0, locals := 12 } : Room).slots) := by
  refine MetFree.of_bodySF (plainFor_of_name own_pn0) hisR ?_
  intro p e s m args below meth c s₁ Bd hml0 hP hK
  obtain ⟨rfl, hZ, hh⟩ := hP
  have hx := Bd.exec
  have hby := Bd.bytes
  have hml : c.maxLocals = 1 := hml0
  have hown : s.vm.findClass "java/lang/Record" = some m.cls := findClass_of_methodNamed Bd.named
  have hnm := (name_of_methodNamed Bd.named Bd.method).1
  have X0 : Stand p l e ({ frames := 1, cells := 0, slots := 0, locals := 12 } : Room) s m #[(.ref o)] below meth c s₁ [] 0 0 := Stand.of_body Bd
  have e0 : s₁.heap = h0 := by rw [← hh, Bd.state]; rfl
  have N0 := Fr.nil n0
  show own_Go p e below (fun o u L => FrameEnd s o u L ({ frames := 1, cells := 0, slots := 0, locals := 12 } : Room).cells ({ frames := 1, cells := 0, slots := 0, locals := 12 } : Room).slots) (Q_rm_rec Z o h0 n0) (s₁.setTop (entryFrame m #[(.ref o)] 1))
  rw [own_ef_rm_rec m o]
  show own_Go _ _ _ _ _ (State.setTop _ (mkF _ 0 #[.val (.ref o)] []))
  refine own_aloadN X0 hx 1 rfl (hb hby own_d2_0) rfl rfl ?_
  refine own_initO X0 hx hZ hown (own_hw hw 22 rfl) (own_hw hw 23 rfl) (own_hw hw 24 rfl) e0 (by rw [hml]; rfl) 4 rfl (hb hby own_d2_1) (by decide) 0 (Nat.le_of_eq rfl) (by decide) fun T1 X1 e1 => ?_
  refine own_ret X1 none (fun _ => rfl) Bd.notSynchronized (by decide) (by decide) ?_ (fun fs hr => X1.returnOut hx Bd.returns (hb hby own_d2_4) hr)
  show Q_rm_rec Z o h0 n0 _ T1.heap _
  rw [e1]
  exact ⟨rfl, N0, rfl⟩
theorem own_pn1 : plainName "com/example/headroom/headroom/CapacityPlan$Server" = true := by first | (simp [plainName, overriddenIn]; done) | decide +kernel
theorem own_ef_rm_init (m : MethodId) (o : Addr) (n : Addr) (x : UInt64) (y : UInt64) : entryFrame m #[(.ref o), (.ref n), (.double x), (.double y)] 6 = mkF m 0 #[.val (.ref o), .val (.ref n), .val (.double x), .second, .val (.double y), .second] [] := by first | (simp [entryFrame, mkF, argsToLocals, Value.category]; done) | rfl
def Q_rm_init (Z : State) (o : Addr) (n : Addr) (x : UInt64) (y : UInt64) (h0 : Heap) (n0 : Nat) (v : Option Value) (h : Heap) (L : List Loc) : Prop := v = none ∧ Fr n0 L ∧ Keep h0 h [o] ∧ Exa Z h o "com/example/headroom/headroom/CapacityPlan$Server" ∧ Fld Z h o "com/example/headroom/headroom/CapacityPlan$Server" "name" "Ljava/lang/String;" (.ref n) ∧ Fld Z h o "com/example/headroom/headroom/CapacityPlan$Server" "slope" "D" (.double x) ∧ Fld Z h o "com/example/headroom/headroom/CapacityPlan$Server" "base" "D" (.double y)
theorem own_d1_0 : decode prog_5_method_1_code 0 = .ok (.aload_n 0, 1) := by decide +kernel
theorem own_d1_1 : decode prog_5_method_1_code 1 = .ok (.invokespecial 3, 3) := by decide +kernel
theorem own_pd0 : parseMethodDescriptor "()V" = some ⟨[], none⟩ := by decide +kernel
theorem own_d1_4 : decode prog_5_method_1_code 4 = .ok (.aload_n 0, 1) := by decide +kernel
theorem own_d1_5 : decode prog_5_method_1_code 5 = .ok (.aload_n 1, 1) := by decide +kernel
theorem own_d1_6 : decode prog_5_method_1_code 6 = .ok (.putfield 9, 3) := by decide +kernel
theorem own_d1_9 : decode prog_5_method_1_code 9 = .ok (.aload_n 0, 1) := by decide +kernel
theorem own_d1_10 : decode prog_5_method_1_code 10 = .ok (.dload_n 2, 1) := by decide +kernel
theorem own_d1_11 : decode prog_5_method_1_code 11 = .ok (.putfield 15, 3) := by decide +kernel
theorem own_d1_14 : decode prog_5_method_1_code 14 = .ok (.aload_n 0, 1) := by decide +kernel
theorem own_d1_15 : decode prog_5_method_1_code 15 = .ok (.dload 4, 2) := by decide +kernel
theorem own_d1_17 : decode prog_5_method_1_code 17 = .ok (.putfield 19, 3) := by decide +kernel
theorem own_d1_20 : decode prog_5_method_1_code 20 = .ok (.return_, 1) := by decide +kernel
set_option maxRecDepth 65536 in
set_option maxHeartbeats 40000000 in
theorem rm_init (l : Launch) (Z : State) (a0 : Array Value) (hw : ∀ d ∈ tables_1, d.before a0 Z = true) (ws : List Jvm.Cond) (o : Addr) (n : Addr) (x : UInt64) (y : UInt64) (h0 : Heap) (n0 : Nat) (Z0 : n0 ≤ h0.size) (E1 : Exa Z h0 o "com/example/headroom/headroom/CapacityPlan$Server") (F_name : Fld Z h0 o "com/example/headroom/headroom/CapacityPlan$Server" "name" "Ljava/lang/String;" .null) (F_slope : Fld Z h0 o "com/example/headroom/headroom/CapacityPlan$Server" "slope" "D" (.double (0 : UInt64))) (F_base : Fld Z h0 o "com/example/headroom/headroom/CapacityPlan$Server" "base" "D" (.double (0 : UInt64))) (g_o : n0 ≤ o) :
    MetFree l (⟨"com/example/headroom/headroom/CapacityPlan$Server", "<init>", "(Ljava/lang/String;DD)V"⟩ : MethodName) (head1 (Jvm.Cond.code (⟨"com/example/headroom/headroom/CapacityPlan$Server", "<init>", "(Ljava/lang/String;DD)V"⟩ : MethodName) prog_5_method_1_code 6 none :: ws) ({ frames := 2, cells := 0, slots := 0, locals := 24 } : Room)) (fun aa U => aa = #[(.ref o), (.ref n), (.double x), (.double y)] ∧ Z.Warmed39 U.vm ∧ U.heap = h0) (fun _ _ _ _ _ => True) (fun _ U ou U' => ∃ v L, ou = .returned v ∧ Q_rm_init Z o n x y h0 n0 v U'.heap L ∧ FrameEnd U ou U' L ({ frames := 2, cells := 0, slots := 0, locals := 24 } : Room).cells ({ frames := 2, cells := 0, slots := 0, locals := 24 } : Room).slots) := by
  refine MetFree.of_bodySF (plainFor_of_name own_pn1) hisR ?_
  intro p e s m args below meth c s₁ Bd hml0 hP hK
  obtain ⟨rfl, hZ, hh⟩ := hP
  have hx := Bd.exec
  have hby := Bd.bytes
  have hml : c.maxLocals = 6 := hml0
  have hown : s.vm.findClass "com/example/headroom/headroom/CapacityPlan$Server" = some m.cls := findClass_of_methodNamed Bd.named
  have hnm := (name_of_methodNamed Bd.named Bd.method).1
  have X0 : Stand p l e ({ frames := 2, cells := 0, slots := 0, locals := 24 } : Room) s m #[(.ref o), (.ref n), (.double x), (.double y)] below meth c s₁ [] 0 0 := Stand.of_body Bd
  have e0 : s₁.heap = h0 := by rw [← hh, Bd.state]; rfl
  have N0 := Fr.nil n0
  have K0 := Keep.refl h0 [o]
  show own_Go p e below (fun o u L => FrameEnd s o u L ({ frames := 2, cells := 0, slots := 0, locals := 24 } : Room).cells ({ frames := 2, cells := 0, slots := 0, locals := 24 } : Room).slots) (Q_rm_init Z o n x y h0 n0) (s₁.setTop (entryFrame m #[(.ref o), (.ref n), (.double x), (.double y)] 6))
  rw [own_ef_rm_init m o n x y]
  show own_Go _ _ _ _ _ (State.setTop _ (mkF _ 0 #[.val (.ref o), .val (.ref n), .val (.double x), .second, .val (.double y), .second] []))
  refine own_aloadN X0 hx 1 rfl (hb hby own_d1_0) rfl rfl ?_
  refine own_special X0 hx hZ (y := (⟨"java/lang/Record", "<init>", "()V"⟩ : MethodName)) hown rfl (own_hw hw 17 rfl) (own_hw hw 18 rfl) (a := o) (by decide) rfl (rm_rec l Z a0 hw [] o h0 n0 Z0 ) (own_hw hw 21 rfl) (own_hw hw 20 rfl) (by decide) e0 (by rw [hml]; rfl) [] 0 (by decide) (Nat.le_of_eq rfl) (by decide) (by decide) (lenOf own_pd0 rfl) rfl rfl 4 rfl (hb hby own_d1_1) fun v2 T2 Lc2 X2 hQ2 => ?_
  obtain ⟨rfl, Nq2, e2⟩ := hQ2
  have N3 := Fr.app N0 Nq2
  show own_Go _ _ _ _ _ (State.setTop _ (mkF _ 4 _ []))
  refine own_aloadN X2 hx 5 rfl (hb hby own_d1_4) rfl rfl ?_
  refine own_aloadN X2 hx 6 rfl (hb hby own_d1_5) rfl rfl ?_
  refine own_putF X2 hx hZ (host := "") hown (Or.inl (own_hw hw 25 rfl)) Via.refl e2 F_name E1 (Or.inr ⟨(own_hw hw 26 rfl), rfl, hnm⟩) (own_hw hw 4 rfl) (ty := (.object "java/lang/String")) (by decide) rfl rfl 9 rfl (hb hby own_d1_6) fun T4 h4 X4 e4 W4 => ?_
  have f5 := E1.wr W4
  have f6 := F_slope.other W4 (Or.inr (slot_ne (Or.inr (own_hw hw 28 rfl)) (Or.inr (own_hw hw 26 rfl)) (by decide) (t := .double) (t' := (.object "java/lang/String")) (by decide) (by decide)))
  have f7 := F_base.other W4 (Or.inr (slot_ne (Or.inr (own_hw hw 30 rfl)) (Or.inr (own_hw hw 26 rfl)) (by decide) (t := .double) (t' := (.object "java/lang/String")) (by decide) (by decide)))
  have z8 := Nat.le_trans Z0 (Keep.of_wr W4).1
  have K9 := K0.wr W4 (Or.inl (List.mem_of_getElem? (i := 0) rfl))
  have f10 := F_name.same W4
  have N11 := Fr.snoc X4 N3 g_o
  refine own_aloadN X4 hx 10 rfl (hb hby own_d1_9) rfl rfl ?_
  refine own_dloadN X4 hx 11 rfl (hb hby own_d1_10) rfl ?_
  refine own_putF X4 hx hZ (host := "") hown (Or.inl (own_hw hw 27 rfl)) Via.refl e4 f6 f5 (Or.inr ⟨(own_hw hw 28 rfl), rfl, hnm⟩) (own_hw hw 4 rfl) (ty := .double) (by decide) rfl rfl 14 rfl (hb hby own_d1_11) fun T12 h12 X12 e12 W12 => ?_
  have f13 := f5.wr W12
  have f14 := f7.other W12 (Or.inr (slot_ne (Or.inr (own_hw hw 30 rfl)) (Or.inr (own_hw hw 28 rfl)) (by decide) (t := .double) (t' := .double) (by decide) (by decide)))
  have f15 := f10.other W12 (Or.inr (slot_ne (Or.inr (own_hw hw 26 rfl)) (Or.inr (own_hw hw 28 rfl)) (by decide) (t := (.object "java/lang/String")) (t' := .double) (by decide) (by decide)))
  have z16 := Nat.le_trans z8 (Keep.of_wr W12).1
  have K17 := K9.wr W12 (Or.inl (List.mem_of_getElem? (i := 0) rfl))
  have f18 := f6.same W12
  have N19 := Fr.snoc X12 N11 g_o
  refine own_aloadN X12 hx 15 rfl (hb hby own_d1_14) rfl rfl ?_
  refine own_dload X12 hx 17 rfl (hb hby own_d1_15) rfl ?_
  refine own_putF X12 hx hZ (host := "") hown (Or.inl (own_hw hw 29 rfl)) Via.refl e12 f14 f13 (Or.inr ⟨(own_hw hw 30 rfl), rfl, hnm⟩) (own_hw hw 4 rfl) (ty := .double) (by decide) rfl rfl 20 rfl (hb hby own_d1_17) fun T20 h20 X20 e20 W20 => ?_
  have f21 := f13.wr W20
  have f22 := f15.other W20 (Or.inr (slot_ne (Or.inr (own_hw hw 26 rfl)) (Or.inr (own_hw hw 30 rfl)) (by decide) (t := (.object "java/lang/String")) (t' := .double) (by decide) (by decide)))
  have f23 := f18.other W20 (Or.inr (slot_ne (Or.inr (own_hw hw 28 rfl)) (Or.inr (own_hw hw 30 rfl)) (by decide) (t := .double) (t' := .double) (by decide) (by decide)))
  have z24 := Nat.le_trans z16 (Keep.of_wr W20).1
  have K25 := K17.wr W20 (Or.inl (List.mem_of_getElem? (i := 0) rfl))
  have f26 := f14.same W20
  have N27 := Fr.snoc X20 N19 g_o
  refine own_ret X20 none (fun _ => rfl) Bd.notSynchronized (by decide) (by decide) ?_ (fun fs hr => X20.returnOut hx Bd.returns (hb hby own_d1_20) hr)
  show Q_rm_init Z o n x y h0 n0 _ T20.heap _
  rw [e20]
  exact ⟨rfl, N27, K25, f21, f22, f23, f26⟩
theorem own_ef_rm_sat (m : MethodId) (o : Addr) : entryFrame m #[(.ref o)] 1 = mkF m 0 #[.val (.ref o)] [] := by first | (simp [entryFrame, mkF, argsToLocals, Value.category]; done) | rfl
def Q_rm_sat (Z : State) (o : Addr) (x : UInt64) (y : UInt64) (h0 : Heap) (n0 : Nat) (v : Option Value) (h : Heap) (L : List Loc) : Prop := v = some (.double (FP.ddiv (FP.dsub (4636737291354636288 : UInt64) y) x)) ∧ Fr n0 L ∧ h = h0
theorem own_d6_0 : decode prog_5_method_2_code 0 = .ok (.ldc2_w 22, 3) := by decide +kernel
theorem own_d6_3 : decode prog_5_method_2_code 3 = .ok (.aload_n 0, 1) := by decide +kernel
theorem own_d6_4 : decode prog_5_method_2_code 4 = .ok (.getfield 19, 3) := by decide +kernel
theorem own_d6_7 : decode prog_5_method_2_code 7 = .ok (.dsub, 1) := by decide +kernel
theorem own_d6_8 : decode prog_5_method_2_code 8 = .ok (.aload_n 0, 1) := by decide +kernel
theorem own_d6_9 : decode prog_5_method_2_code 9 = .ok (.getfield 15, 3) := by decide +kernel
theorem own_d6_12 : decode prog_5_method_2_code 12 = .ok (.ddiv, 1) := by decide +kernel
theorem own_d6_13 : decode prog_5_method_2_code 13 = .ok (.dreturn, 1) := by decide +kernel
set_option maxRecDepth 65536 in
set_option maxHeartbeats 40000000 in
theorem rm_sat (l : Launch) (Z : State) (a0 : Array Value) (hw : ∀ d ∈ tables_1, d.before a0 Z = true) (ws : List Jvm.Cond) (o : Addr) (x : UInt64) (y : UInt64) (h0 : Heap) (n0 : Nat) (Z0 : n0 ≤ h0.size) (F1 : Fld Z h0 o "com/example/headroom/headroom/CapacityPlan$Server" "slope" "D" (.double x)) (F2 : Fld Z h0 o "com/example/headroom/headroom/CapacityPlan$Server" "base" "D" (.double y)) (n1 : NoNaN64 (FP.dsub (4636737291354636288 : UInt64) y)) (n2 : NoNaN64 (FP.ddiv (FP.dsub (4636737291354636288 : UInt64) y) x)) :
    MetFree l (⟨"com/example/headroom/headroom/CapacityPlan$Server", "saturation", "()D"⟩ : MethodName) (head1 (Jvm.Cond.code (⟨"com/example/headroom/headroom/CapacityPlan$Server", "saturation", "()D"⟩ : MethodName) prog_5_method_2_code 1 (some .double) :: ws) ({ frames := 0, cells := 0, slots := 0, locals := 0 } : Room)) (fun aa U => aa = #[(.ref o)] ∧ Z.Warmed39 U.vm ∧ U.heap = h0) (fun _ _ _ _ _ => True) (fun _ U ou U' => ∃ v L, ou = .returned v ∧ Q_rm_sat Z o x y h0 n0 v U'.heap L ∧ FrameEnd U ou U' L ({ frames := 0, cells := 0, slots := 0, locals := 0 } : Room).cells ({ frames := 0, cells := 0, slots := 0, locals := 0 } : Room).slots) := by
  refine MetFree.of_bodySF (plainFor_of_name own_pn1) hisR ?_
  intro p e s m args below meth c s₁ Bd hml0 hP hK
  obtain ⟨rfl, hZ, hh⟩ := hP
  have hx := Bd.exec
  have hby := Bd.bytes
  have hml : c.maxLocals = 1 := hml0
  have hown : s.vm.findClass "com/example/headroom/headroom/CapacityPlan$Server" = some m.cls := findClass_of_methodNamed Bd.named
  have hnm := (name_of_methodNamed Bd.named Bd.method).1
  have X0 : Stand p l e ({ frames := 0, cells := 0, slots := 0, locals := 0 } : Room) s m #[(.ref o)] below meth c s₁ [] 0 0 := Stand.of_body Bd
  have e0 : s₁.heap = h0 := by rw [← hh, Bd.state]; rfl
  have N0 := Fr.nil n0
  show own_Go p e below (fun o u L => FrameEnd s o u L ({ frames := 0, cells := 0, slots := 0, locals := 0 } : Room).cells ({ frames := 0, cells := 0, slots := 0, locals := 0 } : Room).slots) (Q_rm_sat Z o x y h0 n0) (s₁.setTop (entryFrame m #[(.ref o)] 1))
  rw [own_ef_rm_sat m o]
  show own_Go _ _ _ _ _ (State.setTop _ (mkF _ 0 #[.val (.ref o)] []))
  refine own_ldcD X0 hx hZ hown (own_hw hw 46 rfl) 3 rfl (hb hby own_d6_0) ?_
  refine own_aloadN X0 hx 4 rfl (hb hby own_d6_3) rfl rfl ?_
  refine own_getF X0 hx hZ (host := "") hown (Or.inl (own_hw hw 29 rfl)) Via.refl e0 F2 7 rfl (hb hby own_d6_4) fun T28 X28 e28 => ?_
  refine own_dsub X28 hx 8 rfl (hb hby own_d6_7) n1 _ rfl ?_
  refine own_aloadN X28 hx 9 rfl (hb hby own_d6_8) rfl rfl ?_
  refine own_getF X28 hx hZ (host := "") hown (Or.inl (own_hw hw 27 rfl)) Via.refl e28 F1 12 rfl (hb hby own_d6_9) fun T29 X29 e29 => ?_
  refine own_ddiv X29 hx 13 rfl (hb hby own_d6_12) n2 _ rfl ?_
  refine own_ret X29 (some (.double (FP.ddiv (FP.dsub (4636737291354636288 : UInt64) y) x))) (fun h => by rw [Bd.returns] at h; cases h) Bd.notSynchronized (by decide) (by decide) ?_ (fun fs hr => own_retD X29 hx Bd.returns (hb hby own_d6_13) hr)
  show Q_rm_sat Z o x y h0 n0 _ T29.heap _
  rw [e29]
  exact ⟨rfl, N0, rfl⟩
theorem own_ef_rm_exec (m : MethodId) (o : Addr) : entryFrame m #[(.ref o)] 1 = mkF m 0 #[.val (.ref o)] [] := by first | (simp [entryFrame, mkF, argsToLocals, Value.category]; done) | rfl
def Q_rm_exec (Z : State) (o : Addr) (x : UInt64) (h0 : Heap) (n0 : Nat) (v : Option Value) (h : Heap) (L : List Loc) : Prop := v = some (.double (FP.dmul x (4621819117588971520 : UInt64))) ∧ Fr n0 L ∧ h = h0
theorem own_d7_0 : decode prog_5_method_3_code 0 = .ok (.aload_n 0, 1) := by decide +kernel
theorem own_d7_1 : decode prog_5_method_3_code 1 = .ok (.getfield 15, 3) := by decide +kernel
theorem own_d7_4 : decode prog_5_method_3_code 4 = .ok (.ldc2_w 24, 3) := by decide +kernel
theorem own_d7_7 : decode prog_5_method_3_code 7 = .ok (.dmul, 1) := by decide +kernel
theorem own_d7_8 : decode prog_5_method_3_code 8 = .ok (.dreturn, 1) := by decide +kernel
set_option maxRecDepth 65536 in
set_option maxHeartbeats 40000000 in
theorem rm_exec (l : Launch) (Z : State) (a0 : Array Value) (hw : ∀ d ∈ tables_1, d.before a0 Z = true) (ws : List Jvm.Cond) (o : Addr) (x : UInt64) (h0 : Heap) (n0 : Nat) (Z0 : n0 ≤ h0.size) (F1 : Fld Z h0 o "com/example/headroom/headroom/CapacityPlan$Server" "slope" "D" (.double x)) (n1 : NoNaN64 (FP.dmul x (4621819117588971520 : UInt64))) :
    MetFree l (⟨"com/example/headroom/headroom/CapacityPlan$Server", "execution", "()D"⟩ : MethodName) (head1 (Jvm.Cond.code (⟨"com/example/headroom/headroom/CapacityPlan$Server", "execution", "()D"⟩ : MethodName) prog_5_method_3_code 1 (some .double) :: ws) ({ frames := 0, cells := 0, slots := 0, locals := 0 } : Room)) (fun aa U => aa = #[(.ref o)] ∧ Z.Warmed39 U.vm ∧ U.heap = h0) (fun _ _ _ _ _ => True) (fun _ U ou U' => ∃ v L, ou = .returned v ∧ Q_rm_exec Z o x h0 n0 v U'.heap L ∧ FrameEnd U ou U' L ({ frames := 0, cells := 0, slots := 0, locals := 0 } : Room).cells ({ frames := 0, cells := 0, slots := 0, locals := 0 } : Room).slots) := by
  refine MetFree.of_bodySF (plainFor_of_name own_pn1) hisR ?_
  intro p e s m args below meth c s₁ Bd hml0 hP hK
  obtain ⟨rfl, hZ, hh⟩ := hP
  have hx := Bd.exec
  have hby := Bd.bytes
  have hml : c.maxLocals = 1 := hml0
  have hown : s.vm.findClass "com/example/headroom/headroom/CapacityPlan$Server" = some m.cls := findClass_of_methodNamed Bd.named
  have hnm := (name_of_methodNamed Bd.named Bd.method).1
  have X0 : Stand p l e ({ frames := 0, cells := 0, slots := 0, locals := 0 } : Room) s m #[(.ref o)] below meth c s₁ [] 0 0 := Stand.of_body Bd
  have e0 : s₁.heap = h0 := by rw [← hh, Bd.state]; rfl
  have N0 := Fr.nil n0
  show own_Go p e below (fun o u L => FrameEnd s o u L ({ frames := 0, cells := 0, slots := 0, locals := 0 } : Room).cells ({ frames := 0, cells := 0, slots := 0, locals := 0 } : Room).slots) (Q_rm_exec Z o x h0 n0) (s₁.setTop (entryFrame m #[(.ref o)] 1))
  rw [own_ef_rm_exec m o]
  show own_Go _ _ _ _ _ (State.setTop _ (mkF _ 0 #[.val (.ref o)] []))
  refine own_aloadN X0 hx 1 rfl (hb hby own_d7_0) rfl rfl ?_
  refine own_getF X0 hx hZ (host := "") hown (Or.inl (own_hw hw 27 rfl)) Via.refl e0 F1 4 rfl (hb hby own_d7_1) fun T30 X30 e30 => ?_
  refine own_ldcD X30 hx hZ hown (own_hw hw 52 rfl) 7 rfl (hb hby own_d7_4) ?_
  refine own_dmul X30 hx 8 rfl (hb hby own_d7_7) n1 _ rfl ?_
  refine own_ret X30 (some (.double (FP.dmul x (4621819117588971520 : UInt64)))) (fun h => by rw [Bd.returns] at h; cases h) Bd.notSynchronized (by decide) (by decide) ?_ (fun fs hr => own_retD X30 hx Bd.returns (hb hby own_d7_8) hr)
  show Q_rm_exec Z o x h0 n0 _ T30.heap _
  rw [e30]
  exact ⟨rfl, N0, rfl⟩
theorem own_ef_rm_load (m : MethodId) (o : Addr) (r : UInt64) : entryFrame m #[(.ref o), (.double r)] 3 = mkF m 0 #[.val (.ref o), .val (.double r), .second] [] := by first | (simp [entryFrame, mkF, argsToLocals, Value.category]; done) | rfl
def Q_rm_load (Z : State) (o : Addr) (r : UInt64) (x : UInt64) (y : UInt64) (h0 : Heap) (n0 : Nat) (v : Option Value) (h : Heap) (L : List Loc) : Prop := v = some (.double (FP.ddiv r (FP.ddiv (FP.dsub (4636737291354636288 : UInt64) y) x))) ∧ Fr n0 L ∧ h = h0
theorem own_d5_0 : decode prog_5_method_4_code 0 = .ok (.dload_n 1, 1) := by decide +kernel
theorem own_d5_1 : decode prog_5_method_4_code 1 = .ok (.aload_n 0, 1) := by decide +kernel
theorem own_d5_2 : decode prog_5_method_4_code 2 = .ok (.invokevirtual 26, 3) := by decide +kernel
theorem own_pd1 : parseMethodDescriptor "()D" = some ⟨[], some .double⟩ := by decide +kernel
theorem own_d5_5 : decode prog_5_method_4_code 5 = .ok (.ddiv, 1) := by decide +kernel
theorem own_d5_6 : decode prog_5_method_4_code 6 = .ok (.dreturn, 1) := by decide +kernel
set_option maxRecDepth 65536 in
set_option maxHeartbeats 40000000 in
theorem rm_load (l : Launch) (Z : State) (a0 : Array Value) (hw : ∀ d ∈ tables_1, d.before a0 Z = true) (ws : List Jvm.Cond) (o : Addr) (r : UInt64) (x : UInt64) (y : UInt64) (h0 : Heap) (n0 : Nat) (Z0 : n0 ≤ h0.size) (F1 : Fld Z h0 o "com/example/headroom/headroom/CapacityPlan$Server" "slope" "D" (.double x)) (F2 : Fld Z h0 o "com/example/headroom/headroom/CapacityPlan$Server" "base" "D" (.double y)) (E1 : Exa Z h0 o "com/example/headroom/headroom/CapacityPlan$Server") (n1 : NoNaN64 (FP.dsub (4636737291354636288 : UInt64) y)) (n2 : NoNaN64 (FP.ddiv (FP.dsub (4636737291354636288 : UInt64) y) x)) (n3 : NoNaN64 (FP.ddiv r (FP.ddiv (FP.dsub (4636737291354636288 : UInt64) y) x))) :
    MetFree l (⟨"com/example/headroom/headroom/CapacityPlan$Server", "load", "(D)D"⟩ : MethodName) (head1 (Jvm.Cond.code (⟨"com/example/headroom/headroom/CapacityPlan$Server", "load", "(D)D"⟩ : MethodName) prog_5_method_4_code 3 (some .double) :: ws) ({ frames := 1, cells := 0, slots := 0, locals := 14 } : Room)) (fun aa U => aa = #[(.ref o), (.double r)] ∧ Z.Warmed39 U.vm ∧ U.heap = h0) (fun _ _ _ _ _ => True) (fun _ U ou U' => ∃ v L, ou = .returned v ∧ Q_rm_load Z o r x y h0 n0 v U'.heap L ∧ FrameEnd U ou U' L ({ frames := 1, cells := 0, slots := 0, locals := 14 } : Room).cells ({ frames := 1, cells := 0, slots := 0, locals := 14 } : Room).slots) := by
  refine MetFree.of_bodySF (plainFor_of_name own_pn1) hisR ?_
  intro p e s m args below meth c s₁ Bd hml0 hP hK
  obtain ⟨rfl, hZ, hh⟩ := hP
  have hx := Bd.exec
  have hby := Bd.bytes
  have hml : c.maxLocals = 3 := hml0
  have hown : s.vm.findClass "com/example/headroom/headroom/CapacityPlan$Server" = some m.cls := findClass_of_methodNamed Bd.named
  have hnm := (name_of_methodNamed Bd.named Bd.method).1
  have X0 : Stand p l e ({ frames := 1, cells := 0, slots := 0, locals := 14 } : Room) s m #[(.ref o), (.double r)] below meth c s₁ [] 0 0 := Stand.of_body Bd
  have e0 : s₁.heap = h0 := by rw [← hh, Bd.state]; rfl
  have N0 := Fr.nil n0
  show own_Go p e below (fun o u L => FrameEnd s o u L ({ frames := 1, cells := 0, slots := 0, locals := 14 } : Room).cells ({ frames := 1, cells := 0, slots := 0, locals := 14 } : Room).slots) (Q_rm_load Z o r x y h0 n0) (s₁.setTop (entryFrame m #[(.ref o), (.double r)] 3))
  rw [own_ef_rm_load m o r]
  show own_Go _ _ _ _ _ (State.setTop _ (mkF _ 0 #[.val (.ref o), .val (.double r), .second] []))
  refine own_dloadN X0 hx 1 rfl (hb hby own_d5_0) rfl ?_
  refine own_aloadN X0 hx 2 rfl (hb hby own_d5_1) rfl rfl ?_
  refine own_virtual X0 hx hZ (y := (⟨"com/example/headroom/headroom/CapacityPlan$Server", "saturation", "()D"⟩ : MethodName)) (z := (⟨"com/example/headroom/headroom/CapacityPlan$Server", "saturation", "()D"⟩ : MethodName)) hown (own_hw hw 41 rfl) (own_hw hw 42 rfl) (own_hw hw 44 rfl) (own_hw hw 43 rfl) rfl (a := o) E1 (by decide) (rm_sat l Z a0 hw [] o x y h0 n0 Z0 F1 F2 n1 n2) (own_hw hw 45 rfl) (own_hw hw 5 rfl) (by decide) e0 (by rw [hml]; rfl) [] 2 (by decide) (Nat.le_of_eq rfl) (by decide) (by decide) (lenOf own_pd1 rfl) rfl rfl 5 rfl (hb hby own_d5_2) fun v31 T31 Lc31 X31 hQ31 => ?_
  obtain ⟨rfl, Nq31, e31⟩ := hQ31
  have N32 := Fr.app N0 Nq31
  show own_Go _ _ _ _ _ (State.setTop _ (mkF _ 5 _ [(.double (FP.ddiv (FP.dsub (4636737291354636288 : UInt64) y) x)), (.double r)]))
  refine own_ddiv X31 hx 6 rfl (hb hby own_d5_5) n3 _ rfl ?_
  refine own_ret X31 (some (.double (FP.ddiv r (FP.ddiv (FP.dsub (4636737291354636288 : UInt64) y) x)))) (fun h => by rw [Bd.returns] at h; cases h) Bd.notSynchronized (by decide) (by decide) ?_ (fun fs hr => own_retD X31 hx Bd.returns (hb hby own_d5_6) hr)
  show Q_rm_load Z o r x y h0 n0 _ T31.heap _
  rw [e31]
  exact ⟨rfl, N32, rfl⟩
theorem own_ef_rm_resp (m : MethodId) (o : Addr) (r : UInt64) (q : UInt64) : entryFrame m #[(.ref o), (.double r), (.double q)] 11 = mkF m 0 #[.val (.ref o), .val (.double r), .second, .val (.double q), .second, .unset, .unset, .unset, .unset, .unset, .unset] [] := by first | (simp [entryFrame, mkF, argsToLocals, Value.category]; done) | rfl
def Q_rm_resp (Z : State) (o : Addr) (r : UInt64) (q : UInt64) (x : UInt64) (y : UInt64) (h0 : Heap) (n0 : Nat) (v : Option Value) (h : Heap) (L : List Loc) : Prop := v = some (.double (FP.dadd (FP.dmul x (4621819117588971520 : UInt64)) (FP.ddiv (FP.dmul (FP.dmul (FP.ddiv r (FP.ddiv (FP.dsub (4636737291354636288 : UInt64) y) x)) (FP.dmul x (4621819117588971520 : UInt64))) (FP.dadd FP.dconst1 (FP.dmul q q))) (FP.dmul (4611686018427387904 : UInt64) (FP.dsub FP.dconst1 (FP.ddiv r (FP.ddiv (FP.dsub (4636737291354636288 : UInt64) y) x))))))) ∧ Fr n0 L ∧ h = h0
theorem own_d4_0 : decode prog_5_method_5_code 0 = .ok (.aload_n 0, 1) := by decide +kernel
theorem own_d4_1 : decode prog_5_method_5_code 1 = .ok (.dload_n 1, 1) := by decide +kernel
theorem own_d4_2 : decode prog_5_method_5_code 2 = .ok (.invokevirtual 30, 3) := by decide +kernel
theorem own_pd2 : parseMethodDescriptor "(D)D" = some ⟨[.double], some .double⟩ := by decide +kernel
theorem own_d4_5 : decode prog_5_method_5_code 5 = .ok (.dstore 5, 2) := by decide +kernel
theorem own_d4_7 : decode prog_5_method_5_code 7 = .ok (.aload_n 0, 1) := by decide +kernel
theorem own_d4_8 : decode prog_5_method_5_code 8 = .ok (.invokevirtual 34, 3) := by decide +kernel
theorem own_d4_11 : decode prog_5_method_5_code 11 = .ok (.dstore 7, 2) := by decide +kernel
theorem own_d4_13 : decode prog_5_method_5_code 13 = .ok (.dload 5, 2) := by decide +kernel
theorem own_d4_15 : decode prog_5_method_5_code 15 = .ok (.dload 7, 2) := by decide +kernel
theorem own_d4_17 : decode prog_5_method_5_code 17 = .ok (.dmul, 1) := by decide +kernel
theorem own_d4_18 : decode prog_5_method_5_code 18 = .ok (.dconst 1, 1) := by decide +kernel
theorem own_d4_19 : decode prog_5_method_5_code 19 = .ok (.dload_n 3, 1) := by decide +kernel
theorem own_d4_20 : decode prog_5_method_5_code 20 = .ok (.dload_n 3, 1) := by decide +kernel
theorem own_d4_21 : decode prog_5_method_5_code 21 = .ok (.dmul, 1) := by decide +kernel
theorem own_d4_22 : decode prog_5_method_5_code 22 = .ok (.dadd, 1) := by decide +kernel
theorem own_d4_23 : decode prog_5_method_5_code 23 = .ok (.dmul, 1) := by decide +kernel
theorem own_d4_24 : decode prog_5_method_5_code 24 = .ok (.ldc2_w 37, 3) := by decide +kernel
theorem own_d4_27 : decode prog_5_method_5_code 27 = .ok (.dconst 1, 1) := by decide +kernel
theorem own_d4_28 : decode prog_5_method_5_code 28 = .ok (.dload 5, 2) := by decide +kernel
theorem own_d4_30 : decode prog_5_method_5_code 30 = .ok (.dsub, 1) := by decide +kernel
theorem own_d4_31 : decode prog_5_method_5_code 31 = .ok (.dmul, 1) := by decide +kernel
theorem own_d4_32 : decode prog_5_method_5_code 32 = .ok (.ddiv, 1) := by decide +kernel
theorem own_d4_33 : decode prog_5_method_5_code 33 = .ok (.dstore 9, 2) := by decide +kernel
theorem own_d4_35 : decode prog_5_method_5_code 35 = .ok (.dload 7, 2) := by decide +kernel
theorem own_d4_37 : decode prog_5_method_5_code 37 = .ok (.dload 9, 2) := by decide +kernel
theorem own_d4_39 : decode prog_5_method_5_code 39 = .ok (.dadd, 1) := by decide +kernel
theorem own_d4_40 : decode prog_5_method_5_code 40 = .ok (.dreturn, 1) := by decide +kernel
set_option maxRecDepth 65536 in
set_option maxHeartbeats 40000000 in
theorem rm_resp (l : Launch) (Z : State) (a0 : Array Value) (hw : ∀ d ∈ tables_1, d.before a0 Z = true) (ws : List Jvm.Cond) (o : Addr) (r : UInt64) (q : UInt64) (x : UInt64) (y : UInt64) (h0 : Heap) (n0 : Nat) (Z0 : n0 ≤ h0.size) (F1 : Fld Z h0 o "com/example/headroom/headroom/CapacityPlan$Server" "slope" "D" (.double x)) (F2 : Fld Z h0 o "com/example/headroom/headroom/CapacityPlan$Server" "base" "D" (.double y)) (E1 : Exa Z h0 o "com/example/headroom/headroom/CapacityPlan$Server") (n1 : NoNaN64 (FP.dsub (4636737291354636288 : UInt64) y)) (n2 : NoNaN64 (FP.ddiv (FP.dsub (4636737291354636288 : UInt64) y) x)) (n3 : NoNaN64 (FP.ddiv r (FP.ddiv (FP.dsub (4636737291354636288 : UInt64) y) x))) (n4 : NoNaN64 (FP.dmul x (4621819117588971520 : UInt64))) (n5 : NoNaN64 (FP.dmul (FP.ddiv r (FP.ddiv (FP.dsub (4636737291354636288 : UInt64) y) x)) (FP.dmul x (4621819117588971520 : UInt64)))) (n6 : NoNaN64 (FP.dmul q q)) (n7 : NoNaN64 (FP.dadd FP.dconst1 (FP.dmul q q))) (n8 : NoNaN64 (FP.dmul (FP.dmul (FP.ddiv r (FP.ddiv (FP.dsub (4636737291354636288 : UInt64) y) x)) (FP.dmul x (4621819117588971520 : UInt64))) (FP.dadd FP.dconst1 (FP.dmul q q)))) (n9 : NoNaN64 (FP.dsub FP.dconst1 (FP.ddiv r (FP.ddiv (FP.dsub (4636737291354636288 : UInt64) y) x)))) (n10 : NoNaN64 (FP.dmul (4611686018427387904 : UInt64) (FP.dsub FP.dconst1 (FP.ddiv r (FP.ddiv (FP.dsub (4636737291354636288 : UInt64) y) x))))) (n11 : NoNaN64 (FP.ddiv (FP.dmul (FP.dmul (FP.ddiv r (FP.ddiv (FP.dsub (4636737291354636288 : UInt64) y) x)) (FP.dmul x (4621819117588971520 : UInt64))) (FP.dadd FP.dconst1 (FP.dmul q q))) (FP.dmul (4611686018427387904 : UInt64) (FP.dsub FP.dconst1 (FP.ddiv r (FP.ddiv (FP.dsub (4636737291354636288 : UInt64) y) x)))))) (n12 : NoNaN64 (FP.dadd (FP.dmul x (4621819117588971520 : UInt64)) (FP.ddiv (FP.dmul (FP.dmul (FP.ddiv r (FP.ddiv (FP.dsub (4636737291354636288 : UInt64) y) x)) (FP.dmul x (4621819117588971520 : UInt64))) (FP.dadd FP.dconst1 (FP.dmul q q))) (FP.dmul (4611686018427387904 : UInt64) (FP.dsub FP.dconst1 (FP.ddiv r (FP.ddiv (FP.dsub (4636737291354636288 : UInt64) y) x))))))) :
    MetFree l (⟨"com/example/headroom/headroom/CapacityPlan$Server", "response", "(DD)D"⟩ : MethodName) (head1 (Jvm.Cond.code (⟨"com/example/headroom/headroom/CapacityPlan$Server", "response", "(DD)D"⟩ : MethodName) prog_5_method_5_code 11 (some .double) :: ws) ({ frames := 2, cells := 0, slots := 0, locals := 40 } : Room)) (fun aa U => aa = #[(.ref o), (.double r), (.double q)] ∧ Z.Warmed39 U.vm ∧ U.heap = h0) (fun _ _ _ _ _ => True) (fun _ U ou U' => ∃ v L, ou = .returned v ∧ Q_rm_resp Z o r q x y h0 n0 v U'.heap L ∧ FrameEnd U ou U' L ({ frames := 2, cells := 0, slots := 0, locals := 40 } : Room).cells ({ frames := 2, cells := 0, slots := 0, locals := 40 } : Room).slots) := by
  refine MetFree.of_bodySF (plainFor_of_name own_pn1) hisR ?_
  intro p e s m args below meth c s₁ Bd hml0 hP hK
  obtain ⟨rfl, hZ, hh⟩ := hP
  have hx := Bd.exec
  have hby := Bd.bytes
  have hml : c.maxLocals = 11 := hml0
  have hown : s.vm.findClass "com/example/headroom/headroom/CapacityPlan$Server" = some m.cls := findClass_of_methodNamed Bd.named
  have hnm := (name_of_methodNamed Bd.named Bd.method).1
  have X0 : Stand p l e ({ frames := 2, cells := 0, slots := 0, locals := 40 } : Room) s m #[(.ref o), (.double r), (.double q)] below meth c s₁ [] 0 0 := Stand.of_body Bd
  have e0 : s₁.heap = h0 := by rw [← hh, Bd.state]; rfl
  have N0 := Fr.nil n0
  show own_Go p e below (fun o u L => FrameEnd s o u L ({ frames := 2, cells := 0, slots := 0, locals := 40 } : Room).cells ({ frames := 2, cells := 0, slots := 0, locals := 40 } : Room).slots) (Q_rm_resp Z o r q x y h0 n0) (s₁.setTop (entryFrame m #[(.ref o), (.double r), (.double q)] 11))
  rw [own_ef_rm_resp m o r q]
  show own_Go _ _ _ _ _ (State.setTop _ (mkF _ 0 #[.val (.ref o), .val (.double r), .second, .val (.double q), .second, .unset, .unset, .unset, .unset, .unset, .unset] []))
  refine own_aloadN X0 hx 1 rfl (hb hby own_d4_0) rfl rfl ?_
  refine own_dloadN X0 hx 2 rfl (hb hby own_d4_1) rfl ?_
  refine own_virtual X0 hx hZ (y := (⟨"com/example/headroom/headroom/CapacityPlan$Server", "load", "(D)D"⟩ : MethodName)) (z := (⟨"com/example/headroom/headroom/CapacityPlan$Server", "load", "(D)D"⟩ : MethodName)) hown (own_hw hw 36 rfl) (own_hw hw 37 rfl) (own_hw hw 39 rfl) (own_hw hw 38 rfl) rfl (a := o) E1 (by decide) (rm_load l Z a0 hw [] o r x y h0 n0 Z0 F1 F2 E1 n1 n2 n3) (own_hw hw 40 rfl) (own_hw hw 5 rfl) (by decide) e0 (by rw [hml]; rfl) [(.double r)] 0 (by decide) (Nat.le_of_eq rfl) (by decide) (by decide) (lenOf own_pd2 rfl) rfl rfl 5 rfl (hb hby own_d4_2) fun v33 T33 Lc33 X33 hQ33 => ?_
  obtain ⟨rfl, Nq33, e33⟩ := hQ33
  have N34 := Fr.app N0 Nq33
  show own_Go _ _ _ _ _ (State.setTop _ (mkF _ 5 _ [(.double (FP.ddiv r (FP.ddiv (FP.dsub (4636737291354636288 : UInt64) y) x)))]))
  refine own_dstore X33 hx 7 rfl (hb hby own_d4_5) #[.val (.ref o), .val (.double r), .second, .val (.double q), .second, .val (.double (FP.ddiv r (FP.ddiv (FP.dsub (4636737291354636288 : UInt64) y) x))), .second, .unset, .unset, .unset, .unset] rfl ?_
  refine own_aloadN X33 hx 8 rfl (hb hby own_d4_7) rfl rfl ?_
  refine own_virtual X33 hx hZ (y := (⟨"com/example/headroom/headroom/CapacityPlan$Server", "execution", "()D"⟩ : MethodName)) (z := (⟨"com/example/headroom/headroom/CapacityPlan$Server", "execution", "()D"⟩ : MethodName)) hown (own_hw hw 47 rfl) (own_hw hw 48 rfl) (own_hw hw 50 rfl) (own_hw hw 49 rfl) rfl (a := o) E1 (by decide) (rm_exec l Z a0 hw [] o x h0 n0 Z0 F1 n4) (own_hw hw 51 rfl) (own_hw hw 5 rfl) (by decide) e33 (by rw [hml]; rfl) [] 0 (by decide) (Nat.le_of_eq rfl) (by decide) (by decide) (lenOf own_pd1 rfl) rfl rfl 11 rfl (hb hby own_d4_8) fun v35 T35 Lc35 X35 hQ35 => ?_
  obtain ⟨rfl, Nq35, e35⟩ := hQ35
  have N36 := Fr.app N34 Nq35
  show own_Go _ _ _ _ _ (State.setTop _ (mkF _ 11 _ [(.double (FP.dmul x (4621819117588971520 : UInt64)))]))
  refine own_dstore X35 hx 13 rfl (hb hby own_d4_11) #[.val (.ref o), .val (.double r), .second, .val (.double q), .second, .val (.double (FP.ddiv r (FP.ddiv (FP.dsub (4636737291354636288 : UInt64) y) x))), .second, .val (.double (FP.dmul x (4621819117588971520 : UInt64))), .second, .unset, .unset] rfl ?_
  refine own_dload X35 hx 15 rfl (hb hby own_d4_13) rfl ?_
  refine own_dload X35 hx 17 rfl (hb hby own_d4_15) rfl ?_
  refine own_dmul X35 hx 18 rfl (hb hby own_d4_17) n5 _ rfl ?_
  refine own_dconst1 X35 hx 19 rfl (hb hby own_d4_18) ?_
  refine own_dloadN X35 hx 20 rfl (hb hby own_d4_19) rfl ?_
  refine own_dloadN X35 hx 21 rfl (hb hby own_d4_20) rfl ?_
  refine own_dmul X35 hx 22 rfl (hb hby own_d4_21) n6 _ rfl ?_
  refine own_dadd X35 hx 23 rfl (hb hby own_d4_22) n7 _ rfl ?_
  refine own_dmul X35 hx 24 rfl (hb hby own_d4_23) n8 _ rfl ?_
  refine own_ldcD X35 hx hZ hown (own_hw hw 53 rfl) 27 rfl (hb hby own_d4_24) ?_
  refine own_dconst1 X35 hx 28 rfl (hb hby own_d4_27) ?_
  refine own_dload X35 hx 30 rfl (hb hby own_d4_28) rfl ?_
  refine own_dsub X35 hx 31 rfl (hb hby own_d4_30) n9 _ rfl ?_
  refine own_dmul X35 hx 32 rfl (hb hby own_d4_31) n10 _ rfl ?_
  refine own_ddiv X35 hx 33 rfl (hb hby own_d4_32) n11 _ rfl ?_
  refine own_dstore X35 hx 35 rfl (hb hby own_d4_33) #[.val (.ref o), .val (.double r), .second, .val (.double q), .second, .val (.double (FP.ddiv r (FP.ddiv (FP.dsub (4636737291354636288 : UInt64) y) x))), .second, .val (.double (FP.dmul x (4621819117588971520 : UInt64))), .second, .val (.double (FP.ddiv (FP.dmul (FP.dmul (FP.ddiv r (FP.ddiv (FP.dsub (4636737291354636288 : UInt64) y) x)) (FP.dmul x (4621819117588971520 : UInt64))) (FP.dadd FP.dconst1 (FP.dmul q q))) (FP.dmul (4611686018427387904 : UInt64) (FP.dsub FP.dconst1 (FP.ddiv r (FP.ddiv (FP.dsub (4636737291354636288 : UInt64) y) x)))))), .second] rfl ?_
  refine own_dload X35 hx 37 rfl (hb hby own_d4_35) rfl ?_
  refine own_dload X35 hx 39 rfl (hb hby own_d4_37) rfl ?_
  refine own_dadd X35 hx 40 rfl (hb hby own_d4_39) n12 _ rfl ?_
  refine own_ret X35 (some (.double (FP.dadd (FP.dmul x (4621819117588971520 : UInt64)) (FP.ddiv (FP.dmul (FP.dmul (FP.ddiv r (FP.ddiv (FP.dsub (4636737291354636288 : UInt64) y) x)) (FP.dmul x (4621819117588971520 : UInt64))) (FP.dadd FP.dconst1 (FP.dmul q q))) (FP.dmul (4611686018427387904 : UInt64) (FP.dsub FP.dconst1 (FP.ddiv r (FP.ddiv (FP.dsub (4636737291354636288 : UInt64) y) x)))))))) (fun h => by rw [Bd.returns] at h; cases h) Bd.notSynchronized (by decide) (by decide) ?_ (fun fs hr => own_retD X35 hx Bd.returns (hb hby own_d4_40) hr)
  show Q_rm_resp Z o r q x y h0 n0 _ T35.heap _
  rw [e35]
  exact ⟨rfl, N36, rfl⟩
theorem own_pn2 : plainName "com/example/headroom/headroom/ServerResponsePinLaw" = true := by first | (simp [plainName, overriddenIn]; done) | decide +kernel
theorem own_ef_rm0 (m : MethodId) (i0 : Int32) (i1 : Int32) (i2 : Int32) (i3 : Int32) : entryFrame m #[(.int i0), (.int i1), (.int i2), (.int i3)] maxLocals = mkF m 0 #[.val (.int i0), .val (.int i1), .val (.int i2), .val (.int i3), .unset, .unset, .unset, .unset, .unset, .unset, .unset, .unset, .unset, .unset, .unset, .unset, .unset, .unset, .unset, .unset, .unset, .unset, .unset, .unset, .unset, .unset, .unset, .unset, .unset, .unset] [] := by first | (simp [entryFrame, mkF, argsToLocals, Value.category, maxLocals]; done) | rfl
def Q_rm0 (Z : State) (i0 : Int32) (i1 : Int32) (i2 : Int32) (i3 : Int32) (h0 : Heap) (n0 : Nat) (v : Option Value) (h : Heap) (L : List Loc) : Prop := v = some (.int 1) ∧ Fr n0 L
theorem own_pd3 : parseMethodDescriptor "(Ljava/lang/String;DD)V" = some ⟨[(.object "java/lang/String"), .double, .double], none⟩ := by decide +kernel
theorem own_pd4 : parseMethodDescriptor "(DD)D" = some ⟨[.double, .double], some .double⟩ := by decide +kernel
set_option maxRecDepth 65536 in
set_option maxHeartbeats 40000000 in
theorem rm0 (l : Launch) (Z : State) (a0 : Array Value) (hw : ∀ d ∈ tables_1, d.before a0 Z = true) (ws : List Jvm.Cond) (i0 : Int32) (i1 : Int32) (i2 : Int32) (i3 : Int32) (h0 : Heap) (n0 : Nat) (Z0 : n0 ≤ h0.size)  :
    MetFree l x (head1 (Jvm.Cond.code x code maxLocals ret :: ws) room_1) (fun aa U => aa = #[(.int i0), (.int i1), (.int i2), (.int i3)] ∧ Z.Warmed39 U.vm ∧ U.heap = h0) (fun _ _ _ _ _ => True) (fun _ U ou U' => ∃ v L, ou = .returned v ∧ Q_rm0 Z i0 i1 i2 i3 h0 n0 v U'.heap L ∧ ReturnedEndW U ou U' L room_1.cells room_1.slots) := by
  refine MetFree.of_bodySF (plainFor_of_name own_pn2) hisR ?_
  intro p e s m args below meth c s₁ Bd hml0 hP hK
  obtain ⟨rfl, hZ, hh⟩ := hP
  have hx := Bd.exec
  have hby := Bd.bytes
  have hml : c.maxLocals = 30 := hml0
  have hown : s.vm.findClass "com/example/headroom/headroom/ServerResponsePinLaw" = some m.cls := findClass_of_methodNamed Bd.named
  have hnm := (name_of_methodNamed Bd.named Bd.method).1
  have X0 : Stand p l e room_1 s m #[(.int i0), (.int i1), (.int i2), (.int i3)] below meth c s₁ [] 0 0 := Stand.of_body Bd
  have e0 : s₁.heap = h0 := by rw [← hh, Bd.state]; rfl
  have N0 := Fr.nil n0
  show own_Go p e below (fun o u L => ReturnedEndW s o u L room_1.cells room_1.slots) (Q_rm0 Z i0 i1 i2 i3 h0 n0) (s₁.setTop (entryFrame m #[(.int i0), (.int i1), (.int i2), (.int i3)] maxLocals))
  rw [own_ef_rm0 m i0 i1 i2 i3]
  have hSA : ∀ a ∈ Bundle.stringAtoms, a.before a0 Z = true := fun a ha => by
    simp only [Bundle.stringAtoms, List.mem_cons, List.not_mem_nil, or_false] at ha
    rcases ha with rfl | rfl | rfl | rfl | rfl | rfl | rfl
    · exact (own_hw hw 7 rfl)
    · exact (own_hw hw 8 rfl)
    · exact (own_hw hw 9 rfl)
    · exact (own_hw hw 10 rfl)
    · exact (own_hw hw 11 rfl)
    · exact (own_hw hw 12 rfl)
    · exact (own_hw hw 13 rfl)
  show own_Go _ _ _ _ _ (State.setTop _ (mkF _ 0 #[.val (.int i0), .val (.int i1), .val (.int i2), .val (.int i3), .unset, .unset, .unset, .unset, .unset, .unset, .unset, .unset, .unset, .unset, .unset, .unset, .unset, .unset, .unset, .unset, .unset, .unset, .unset, .unset, .unset, .unset, .unset, .unset, .unset, .unset] []))
  refine own_iloadN X0 hx 1 rfl (hb hby at_0) rfl ?_
  refine own_ldcI X0 hx hZ hown (own_hw hw 0 rfl) 3 rfl (hb hby at_1) ?_
  refine own_iand X0 hx 4 rfl (hb hby at_3) _ rfl ?_
  refine own_bipush X0 hx 6 rfl (hb hby at_4) (7 : Int32) rfl ?_
  refine own_irem X0 hx 7 rfl (hb hby at_6) (by decide) _ rfl ?_
  refine own_istore X0 hx 9 rfl (hb hby at_7) #[.val (.int i0), .val (.int i1), .val (.int i2), .val (.int i3), .val (.int ((i0 &&& (2147483647 : Int32)) % (7 : Int32))), .unset, .unset, .unset, .unset, .unset, .unset, .unset, .unset, .unset, .unset, .unset, .unset, .unset, .unset, .unset, .unset, .unset, .unset, .unset, .unset, .unset, .unset, .unset, .unset, .unset] rfl ?_
  show own_Go _ _ _ _ _ (State.setTop _ (mkF _ 9 #[.val (.int i0), .val (.int i1), .val (.int i2), .val (.int i3), .val (.int (own_k i0)), .unset, .unset, .unset, .unset, .unset, .unset, .unset, .unset, .unset, .unset, .unset, .unset, .unset, .unset, .unset, .unset, .unset, .unset, .unset, .unset, .unset, .unset, .unset, .unset, .unset] []))
  refine own_iconst X0 hx 10 rfl (hb hby at_9) (1 : Int32) rfl ?_
  refine own_iload X0 hx 12 rfl (hb hby at_10) rfl ?_
  refine own_ishl X0 hx 13 rfl (hb hby at_12) _ rfl ?_
  refine own_istore X0 hx 15 rfl (hb hby at_13) #[.val (.int i0), .val (.int i1), .val (.int i2), .val (.int i3), .val (.int (own_k i0)), .val (.int ((1 : Int32) <<< ((own_k i0) &&& 31))), .unset, .unset, .unset, .unset, .unset, .unset, .unset, .unset, .unset, .unset, .unset, .unset, .unset, .unset, .unset, .unset, .unset, .unset, .unset, .unset, .unset, .unset, .unset, .unset] rfl ?_
  show own_Go _ _ _ _ _ (State.setTop _ (mkF _ 15 #[.val (.int i0), .val (.int i1), .val (.int i2), .val (.int i3), .val (.int (own_k i0)), .val (.int (own_D i0)), .unset, .unset, .unset, .unset, .unset, .unset, .unset, .unset, .unset, .unset, .unset, .unset, .unset, .unset, .unset, .unset, .unset, .unset, .unset, .unset, .unset, .unset, .unset, .unset] []))
  refine own_bipush X0 hx 17 rfl (hb hby at_15) (100 : Int32) rfl ?_
  refine own_iload X0 hx 19 rfl (hb hby at_17) rfl ?_
  refine own_idiv X0 hx 20 rfl (hb hby at_19) (own_D_nz i0) _ rfl ?_
  refine own_istore X0 hx 22 rfl (hb hby at_20) #[.val (.int i0), .val (.int i1), .val (.int i2), .val (.int i3), .val (.int (own_k i0)), .val (.int (own_D i0)), .val (.int ((100 : Int32) / (own_D i0))), .unset, .unset, .unset, .unset, .unset, .unset, .unset, .unset, .unset, .unset, .unset, .unset, .unset, .unset, .unset, .unset, .unset, .unset, .unset, .unset, .unset, .unset, .unset] rfl ?_
  show own_Go _ _ _ _ _ (State.setTop _ (mkF _ 22 #[.val (.int i0), .val (.int i1), .val (.int i2), .val (.int i3), .val (.int (own_k i0)), .val (.int (own_D i0)), .val (.int (own_q i0)), .unset, .unset, .unset, .unset, .unset, .unset, .unset, .unset, .unset, .unset, .unset, .unset, .unset, .unset, .unset, .unset, .unset, .unset, .unset, .unset, .unset, .unset, .unset] []))
  refine own_iloadN X0 hx 23 rfl (hb hby at_22) rfl ?_
  refine own_ldcI X0 hx hZ hown (own_hw hw 0 rfl) 25 rfl (hb hby at_23) ?_
  refine own_iand X0 hx 26 rfl (hb hby at_25) _ rfl ?_
  refine own_iload X0 hx 28 rfl (hb hby at_26) rfl ?_
  refine own_iconst X0 hx 29 rfl (hb hby at_28) (1 : Int32) rfl ?_
  refine own_iadd X0 hx 30 rfl (hb hby at_29) _ rfl ?_
  show own_Go _ _ _ _ _ (State.setTop _ (mkF _ 30 _ [(.int (own_q1 i0)), (.int (i1 &&& (2147483647 : Int32)))]))
  refine own_irem X0 hx 31 rfl (hb hby at_30) (own_q1_nz i0) _ rfl ?_
  refine own_istore X0 hx 33 rfl (hb hby at_31) #[.val (.int i0), .val (.int i1), .val (.int i2), .val (.int i3), .val (.int (own_k i0)), .val (.int (own_D i0)), .val (.int (own_q i0)), .val (.int ((i1 &&& (2147483647 : Int32)) % (own_q1 i0))), .unset, .unset, .unset, .unset, .unset, .unset, .unset, .unset, .unset, .unset, .unset, .unset, .unset, .unset, .unset, .unset, .unset, .unset, .unset, .unset, .unset, .unset] rfl ?_
  show own_Go _ _ _ _ _ (State.setTop _ (mkF _ 33 #[.val (.int i0), .val (.int i1), .val (.int i2), .val (.int i3), .val (.int (own_k i0)), .val (.int (own_D i0)), .val (.int (own_q i0)), .val (.int (own_s i0 i1)), .unset, .unset, .unset, .unset, .unset, .unset, .unset, .unset, .unset, .unset, .unset, .unset, .unset, .unset, .unset, .unset, .unset, .unset, .unset, .unset, .unset, .unset] []))
  refine own_iloadN X0 hx 34 rfl (hb hby at_33) rfl ?_
  refine own_ldcI X0 hx hZ hown (own_hw hw 0 rfl) 36 rfl (hb hby at_34) ?_
  refine own_iand X0 hx 37 rfl (hb hby at_36) _ rfl ?_
  refine own_iconst X0 hx 38 rfl (hb hby at_37) (4 : Int32) rfl ?_
  refine own_iload X0 hx 40 rfl (hb hby at_38) rfl ?_
  refine own_imul X0 hx 41 rfl (hb hby at_40) _ rfl ?_
  show own_Go _ _ _ _ _ (State.setTop _ (mkF _ 41 _ [(.int (own_4D i0)), (.int (i2 &&& (2147483647 : Int32)))]))
  refine own_irem X0 hx 42 rfl (hb hby at_41) (own_4D_nz i0) _ rfl ?_
  refine own_istore X0 hx 44 rfl (hb hby at_42) #[.val (.int i0), .val (.int i1), .val (.int i2), .val (.int i3), .val (.int (own_k i0)), .val (.int (own_D i0)), .val (.int (own_q i0)), .val (.int (own_s i0 i1)), .val (.int ((i2 &&& (2147483647 : Int32)) % (own_4D i0))), .unset, .unset, .unset, .unset, .unset, .unset, .unset, .unset, .unset, .unset, .unset, .unset, .unset, .unset, .unset, .unset, .unset, .unset, .unset, .unset, .unset] rfl ?_
  show own_Go _ _ _ _ _ (State.setTop _ (mkF _ 44 #[.val (.int i0), .val (.int i1), .val (.int i2), .val (.int i3), .val (.int (own_k i0)), .val (.int (own_D i0)), .val (.int (own_q i0)), .val (.int (own_s i0 i1)), .val (.int (own_r i0 i2)), .unset, .unset, .unset, .unset, .unset, .unset, .unset, .unset, .unset, .unset, .unset, .unset, .unset, .unset, .unset, .unset, .unset, .unset, .unset, .unset, .unset] []))
  refine own_iloadN X0 hx 45 rfl (hb hby at_44) rfl ?_
  refine own_ldcI X0 hx hZ hown (own_hw hw 1 rfl) 47 rfl (hb hby at_45) ?_
  refine own_irem X0 hx 48 rfl (hb hby at_47) (by decide) _ rfl ?_
  refine own_i2l X0 hx 49 rfl (hb hby at_48) _ rfl ?_
  refine own_lstore X0 hx 51 rfl (hb hby at_49) #[.val (.int i0), .val (.int i1), .val (.int i2), .val (.int i3), .val (.int (own_k i0)), .val (.int (own_D i0)), .val (.int (own_q i0)), .val (.int (own_s i0 i1)), .val (.int (own_r i0 i2)), .val (.long ((i3 % (1048576 : Int32)).toInt64)), .second, .unset, .unset, .unset, .unset, .unset, .unset, .unset, .unset, .unset, .unset, .unset, .unset, .unset, .unset, .unset, .unset, .unset, .unset, .unset] rfl ?_
  show own_Go _ _ _ _ _ (State.setTop _ (mkF _ 51 #[.val (.int i0), .val (.int i1), .val (.int i2), .val (.int i3), .val (.int (own_k i0)), .val (.int (own_D i0)), .val (.int (own_q i0)), .val (.int (own_s i0 i1)), .val (.int (own_r i0 i2)), .val (.long (own_v i3)), .second, .unset, .unset, .unset, .unset, .unset, .unset, .unset, .unset, .unset, .unset, .unset, .unset, .unset, .unset, .unset, .unset, .unset, .unset, .unset] []))
  refine own_iload X0 hx 53 rfl (hb hby at_51) rfl ?_
  by_cases hc37 : (own_s i0 i1) = (0 : Int32)
  ·
    refine own_ifNo X0 hx 56 rfl (hb hby at_53) ((if0 _ _).trans (teq hc37).2) ?_
    refine own_iload X0 hx 58 rfl (hb hby at_56) rfl ?_
    refine own_i2d X0 hx 59 rfl (hb hby at_58) _ rfl ?_
    refine own_dstore X0 hx 61 rfl (hb hby at_59) #[.val (.int i0), .val (.int i1), .val (.int i2), .val (.int i3), .val (.int (own_k i0)), .val (.int (own_D i0)), .val (.int (own_q i0)), .val (.int (own_s i0 i1)), .val (.int (own_r i0 i2)), .val (.long (own_v i3)), .second, .val (.double (FP.i2d (own_D i0))), .second, .unset, .unset, .unset, .unset, .unset, .unset, .unset, .unset, .unset, .unset, .unset, .unset, .unset, .unset, .unset, .unset, .unset] rfl ?_
    refine own_goto X0 hx 75 (hb hby at_61) (by decide) rfl ?_
    refine own_iload X0 hx 77 rfl (hb hby at_75) rfl ?_
    refine own_i2d X0 hx 78 rfl (hb hby at_77) _ rfl ?_
    refine own_dstore X0 hx 80 rfl (hb hby at_78) #[.val (.int i0), .val (.int i1), .val (.int i2), .val (.int i3), .val (.int (own_k i0)), .val (.int (own_D i0)), .val (.int (own_q i0)), .val (.int (own_s i0 i1)), .val (.int (own_r i0 i2)), .val (.long (own_v i3)), .second, .val (.double (FP.i2d (own_D i0))), .second, .val (.double (FP.i2d (own_s i0 i1))), .second, .unset, .unset, .unset, .unset, .unset, .unset, .unset, .unset, .unset, .unset, .unset, .unset, .unset, .unset, .unset] rfl ?_
    refine own_iload X0 hx 82 rfl (hb hby at_80) rfl ?_
    refine own_i2d X0 hx 83 rfl (hb hby at_82) _ rfl ?_
    refine own_ldcD X0 hx hZ hown (own_hw hw 2 rfl) 86 rfl (hb hby at_83) ?_
    refine own_ddiv X0 hx 87 rfl (hb hby at_86) (own_rate_is i0 i2).nn (own_rate i0 i2) rfl ?_
    refine own_dstore X0 hx 89 rfl (hb hby at_87) #[.val (.int i0), .val (.int i1), .val (.int i2), .val (.int i3), .val (.int (own_k i0)), .val (.int (own_D i0)), .val (.int (own_q i0)), .val (.int (own_s i0 i1)), .val (.int (own_r i0 i2)), .val (.long (own_v i3)), .second, .val (.double (FP.i2d (own_D i0))), .second, .val (.double (FP.i2d (own_s i0 i1))), .second, .val (.double (own_rate i0 i2)), .second, .unset, .unset, .unset, .unset, .unset, .unset, .unset, .unset, .unset, .unset, .unset, .unset, .unset] rfl ?_
    refine own_lload X0 hx 91 rfl (hb hby at_89) rfl ?_
    refine own_l2d X0 hx 92 rfl (hb hby at_91) _ rfl ?_
    refine own_dstore X0 hx 94 rfl (hb hby at_92) #[.val (.int i0), .val (.int i1), .val (.int i2), .val (.int i3), .val (.int (own_k i0)), .val (.int (own_D i0)), .val (.int (own_q i0)), .val (.int (own_s i0 i1)), .val (.int (own_r i0 i2)), .val (.long (own_v i3)), .second, .val (.double (FP.i2d (own_D i0))), .second, .val (.double (FP.i2d (own_s i0 i1))), .second, .val (.double (own_rate i0 i2)), .second, .val (.double (FP.l2d (own_v i3))), .second, .unset, .unset, .unset, .unset, .unset, .unset, .unset, .unset, .unset, .unset, .unset] rfl ?_
    show own_Go _ _ _ _ _ (State.setTop _ (mkF _ 94 #[.val (.int i0), .val (.int i1), .val (.int i2), .val (.int i3), .val (.int (own_k i0)), .val (.int (own_D i0)), .val (.int (own_q i0)), .val (.int (own_s i0 i1)), .val (.int (own_r i0 i2)), .val (.long (own_v i3)), .second, .val (.double (FP.i2d (own_D i0))), .second, .val (.double (FP.i2d (own_s i0 i1))), .second, .val (.double (own_rate i0 i2)), .second, .val (.double (own_vd i3)), .second, .unset, .unset, .unset, .unset, .unset, .unset, .unset, .unset, .unset, .unset, .unset] []))
    refine own_new X0 hx hZ hown (own_hw hw 3 rfl) (own_hw hw 4 rfl) (own_hw hw 5 rfl) e0 97 rfl (hb hby at_94) (by decide) (by decide) fun T38 h38 b38 g38 X38 e38 E38 A38 D38 => ?_
    have ge39 : n0 ≤ b38 := Nat.le_trans Z0 (Nat.le_of_eq g38.symm)
    have z40 := Nat.le_trans Z0 E38.1
    have f41 : Fld Z h38 b38 "com/example/headroom/headroom/CapacityPlan$Server" "name" "Ljava/lang/String;" .null := D38 (Or.inr (own_hw hw 26 rfl)) (ty := (.object "java/lang/String")) (by decide)
    have f42 : Fld Z h38 b38 "com/example/headroom/headroom/CapacityPlan$Server" "slope" "D" (.double (0 : UInt64)) := D38 (Or.inr (own_hw hw 28 rfl)) (ty := .double) (by decide)
    have f43 : Fld Z h38 b38 "com/example/headroom/headroom/CapacityPlan$Server" "base" "D" (.double (0 : UInt64)) := D38 (Or.inr (own_hw hw 30 rfl)) (ty := .double) (by decide)
    refine own_dup X38 hx 98 rfl (hb hby at_97) rfl ?_
    refine own_ldcS X38 hx hZ hown (own_hw hw 6 rfl) hSA e38 100 rfl (hb hby at_98) 4 (by decide) (by decide) (by decide) (by decide) fun b44 T44 h44 X44 e44 E44 S44 hZ hown => ?_
    have f45 := A38.ext E44
    have f46 := f41.ext E44
    have f47 := f42.ext E44
    have f48 := f43.ext E44
    have z49 := Nat.le_trans z40 E44.1
    have zs50 := Nat.le_refl h44.size
    refine own_dload X44 hx 102 rfl (hb hby at_100) rfl ?_
    refine own_dload X44 hx 104 rfl (hb hby at_102) rfl ?_
    refine own_special X44 hx hZ (y := (⟨"com/example/headroom/headroom/CapacityPlan$Server", "<init>", "(Ljava/lang/String;DD)V"⟩ : MethodName)) hown rfl (own_hw hw 14 rfl) (own_hw hw 15 rfl) (a := b38) (by decide) rfl (rm_init l Z a0 hw [] b38 b44 (FP.i2d (own_s i0 i1)) (FP.i2d (own_D i0)) h44 n0 z49 f45 f46 f47 f48 ge39) (own_hw hw 16 rfl) (own_hw hw 5 rfl) (by decide) e44 (by rw [hml]; rfl) [(.ref b44), (.double (FP.i2d (own_s i0 i1))), (.double (FP.i2d (own_D i0)))] 1 (by decide) (Nat.le_of_eq rfl) (by decide) (by decide) (lenOf own_pd3 rfl) rfl rfl 107 rfl (hb hby at_104) fun v51 T51 Lc51 X51 hQ51 => ?_
    obtain ⟨rfl, Nq51, Kq51, f52, f53, f54, f55⟩ := hQ51
    have N56 := Fr.app N0 Nq51
    have f57 := f45.keep Kq51
    have z61 := Nat.le_trans z49 Kq51.1
    have zs62 := Nat.le_trans zs50 Kq51.1
    show own_Go _ _ _ _ _ (State.setTop _ (mkF _ 107 _ [(.ref b38)]))
    refine own_astore X51 hx 109 rfl (hb hby at_107) rfl #[.val (.int i0), .val (.int i1), .val (.int i2), .val (.int i3), .val (.int (own_k i0)), .val (.int (own_D i0)), .val (.int (own_q i0)), .val (.int (own_s i0 i1)), .val (.int (own_r i0 i2)), .val (.long (own_v i3)), .second, .val (.double (FP.i2d (own_D i0))), .second, .val (.double (FP.i2d (own_s i0 i1))), .second, .val (.double (own_rate i0 i2)), .second, .val (.double (own_vd i3)), .second, .val (.ref b38), .unset, .unset, .unset, .unset, .unset, .unset, .unset, .unset, .unset, .unset] rfl ?_
    refine own_aload X51 hx 111 rfl (hb hby at_109) rfl rfl ?_
    refine own_dload X51 hx 113 rfl (hb hby at_111) rfl ?_
    refine own_dload X51 hx 115 rfl (hb hby at_113) rfl ?_
    obtain ⟨κ, hκ, eκ⟩ := own_D_pow i0
    have hld := own_zero_scale (own_loadz_is i0 i1 i2 hc37) (2 + κ)
    have hsz : (own_s i0 i1).toInt = 0 := by rw [hc37]; decide
    have hall := own_all i0 i1 i2 i3 hld hκ eκ (Int.le_refl _) (by have := own_D_rng i0; omega) (by rw [hsz]; omega)
    refine own_virtual X51 hx hZ (y := (⟨"com/example/headroom/headroom/CapacityPlan$Server", "response", "(DD)D"⟩ : MethodName)) (z := (⟨"com/example/headroom/headroom/CapacityPlan$Server", "response", "(DD)D"⟩ : MethodName)) hown (own_hw hw 31 rfl) (own_hw hw 32 rfl) (own_hw hw 34 rfl) (own_hw hw 33 rfl) rfl (a := b38) f52 (by decide) (rm_resp l Z a0 hw [] b38 (own_rate i0 i2) (own_vd i3) (FP.i2d (own_s i0 i1)) (FP.i2d (own_D i0)) T51.heap n0 z61 f54 f55 f52 (own_capz_is i0).nn (own_nn_of (x := own_satz i0 i1) (by rw [own_satz_inf i0 i1 hc37]; exact fun q => FP.Core.Datum.noConfusion q)) hld.nn (own_ex_is i0 i1).nn hall.1 (own_v2_is i3).nn (own_v21_is i3).nn hall.2.1 hall.2.2.1 hall.2.2.2.1 hall.2.2.2.2.1 hall.2.2.2.2.2.1) (own_hw hw 35 rfl) (own_hw hw 5 rfl) (by decide) rfl (by rw [hml]; rfl) [(.double (own_rate i0 i2)), (.double (own_vd i3))] 0 (by decide) (Nat.le_of_eq rfl) (by decide) (by decide) (lenOf own_pd4 rfl) rfl rfl 118 rfl (hb hby at_115) fun v63 T63 Lc63 X63 hQ63 => ?_
    obtain ⟨rfl, Nq63, e63⟩ := hQ63
    have N64 := Fr.app N56 Nq63
    show own_Go _ _ _ _ _ (State.setTop _ (mkF _ 118 _ [(.double (own_resp i0 i1 i3 (FP.ddiv (own_rate i0 i2) (own_satz i0 i1))))]))
    refine own_dstore X63 hx 120 rfl (hb hby at_118) #[.val (.int i0), .val (.int i1), .val (.int i2), .val (.int i3), .val (.int (own_k i0)), .val (.int (own_D i0)), .val (.int (own_q i0)), .val (.int (own_s i0 i1)), .val (.int (own_r i0 i2)), .val (.long (own_v i3)), .second, .val (.double (FP.i2d (own_D i0))), .second, .val (.double (FP.i2d (own_s i0 i1))), .second, .val (.double (own_rate i0 i2)), .second, .val (.double (own_vd i3)), .second, .val (.ref b38), .val (.double (own_resp i0 i1 i3 (FP.ddiv (own_rate i0 i2) (own_satz i0 i1)))), .second, .unset, .unset, .unset, .unset, .unset, .unset, .unset, .unset] rfl ?_
    refine own_ldcJ X63 hx hZ hown (own_hw hw 54 rfl) 123 rfl (hb hby at_120) ?_
    refine own_iload X63 hx 125 rfl (hb hby at_123) rfl ?_
    refine own_i2l X63 hx 126 rfl (hb hby at_125) _ rfl ?_
    refine own_lmul X63 hx 127 rfl (hb hby at_126) _ rfl ?_
    refine own_iload X63 hx 129 rfl (hb hby at_127) rfl ?_
    refine own_i2l X63 hx 130 rfl (hb hby at_129) _ rfl ?_
    refine own_lmul X63 hx 131 rfl (hb hby at_130) _ rfl ?_
    refine own_lconst X63 hx 132 rfl (hb hby at_131) (1 : Int64) rfl ?_
    refine own_lload X63 hx 134 rfl (hb hby at_132) rfl ?_
    refine own_lload X63 hx 136 rfl (hb hby at_134) rfl ?_
    refine own_lmul X63 hx 137 rfl (hb hby at_136) _ rfl ?_
    refine own_ladd X63 hx 138 rfl (hb hby at_137) _ rfl ?_
    refine own_lmul X63 hx 139 rfl (hb hby at_138) _ rfl ?_
    refine own_lstore X63 hx 141 rfl (hb hby at_139) #[.val (.int i0), .val (.int i1), .val (.int i2), .val (.int i3), .val (.int (own_k i0)), .val (.int (own_D i0)), .val (.int (own_q i0)), .val (.int (own_s i0 i1)), .val (.int (own_r i0 i2)), .val (.long (own_v i3)), .second, .val (.double (FP.i2d (own_D i0))), .second, .val (.double (FP.i2d (own_s i0 i1))), .second, .val (.double (own_rate i0 i2)), .second, .val (.double (own_vd i3)), .second, .val (.ref b38), .val (.double (own_resp i0 i1 i3 (FP.ddiv (own_rate i0 i2) (own_satz i0 i1)))), .second, .val (.long ((((10 : Int64) * ((own_s i0 i1).toInt64)) * ((own_r i0 i2).toInt64)) * ((1 : Int64) + ((own_v i3) * (own_v i3))))), .second, .unset, .unset, .unset, .unset, .unset, .unset] rfl ?_
    show own_Go _ _ _ _ _ (State.setTop _ (mkF _ 141 #[.val (.int i0), .val (.int i1), .val (.int i2), .val (.int i3), .val (.int (own_k i0)), .val (.int (own_D i0)), .val (.int (own_q i0)), .val (.int (own_s i0 i1)), .val (.int (own_r i0 i2)), .val (.long (own_v i3)), .second, .val (.double (FP.i2d (own_D i0))), .second, .val (.double (FP.i2d (own_s i0 i1))), .second, .val (.double (own_rate i0 i2)), .second, .val (.double (own_vd i3)), .second, .val (.ref b38), .val (.double (own_resp i0 i1 i3 (FP.ddiv (own_rate i0 i2) (own_satz i0 i1)))), .second, .val (.long (own_N i0 i1 i2 i3)), .second, .unset, .unset, .unset, .unset, .unset, .unset] []))
    refine own_ldcJ X63 hx hZ hown (own_hw hw 55 rfl) 144 rfl (hb hby at_141) ?_
    refine own_ldcJ X63 hx hZ hown (own_hw hw 56 rfl) 147 rfl (hb hby at_144) ?_
    refine own_iload X63 hx 149 rfl (hb hby at_147) rfl ?_
    refine own_i2l X63 hx 150 rfl (hb hby at_149) _ rfl ?_
    refine own_lmul X63 hx 151 rfl (hb hby at_150) _ rfl ?_
    refine own_iload X63 hx 153 rfl (hb hby at_151) rfl ?_
    refine own_i2l X63 hx 154 rfl (hb hby at_153) _ rfl ?_
    refine own_lsub X63 hx 155 rfl (hb hby at_154) _ rfl ?_
    refine own_lmul X63 hx 156 rfl (hb hby at_155) _ rfl ?_
    refine own_lstore X63 hx 158 rfl (hb hby at_156) #[.val (.int i0), .val (.int i1), .val (.int i2), .val (.int i3), .val (.int (own_k i0)), .val (.int (own_D i0)), .val (.int (own_q i0)), .val (.int (own_s i0 i1)), .val (.int (own_r i0 i2)), .val (.long (own_v i3)), .second, .val (.double (FP.i2d (own_D i0))), .second, .val (.double (FP.i2d (own_s i0 i1))), .second, .val (.double (own_rate i0 i2)), .second, .val (.double (own_vd i3)), .second, .val (.ref b38), .val (.double (own_resp i0 i1 i3 (FP.ddiv (own_rate i0 i2) (own_satz i0 i1)))), .second, .val (.long (own_N i0 i1 i2 i3)), .second, .val (.long ((2 : Int64) * (((4 : Int64) * ((own_D i0).toInt64)) - ((own_r i0 i2).toInt64)))), .second, .unset, .unset, .unset, .unset] rfl ?_
    show own_Go _ _ _ _ _ (State.setTop _ (mkF _ 158 #[.val (.int i0), .val (.int i1), .val (.int i2), .val (.int i3), .val (.int (own_k i0)), .val (.int (own_D i0)), .val (.int (own_q i0)), .val (.int (own_s i0 i1)), .val (.int (own_r i0 i2)), .val (.long (own_v i3)), .second, .val (.double (FP.i2d (own_D i0))), .second, .val (.double (FP.i2d (own_s i0 i1))), .second, .val (.double (own_rate i0 i2)), .second, .val (.double (own_vd i3)), .second, .val (.ref b38), .val (.double (own_resp i0 i1 i3 (FP.ddiv (own_rate i0 i2) (own_satz i0 i1)))), .second, .val (.long (own_N i0 i1 i2 i3)), .second, .val (.long (own_M i0 i2)), .second, .unset, .unset, .unset, .unset] []))
    refine own_lload X63 hx 160 rfl (hb hby at_158) rfl ?_
    refine own_l2d X63 hx 161 rfl (hb hby at_160) _ rfl ?_
    show own_Go _ _ _ _ _ (State.setTop _ (mkF _ 161 _ [(.double (own_Nd i0 i1 i2 i3))]))
    refine own_lload X63 hx 163 rfl (hb hby at_161) rfl ?_
    refine own_l2d X63 hx 164 rfl (hb hby at_163) _ rfl ?_
    show own_Go _ _ _ _ _ (State.setTop _ (mkF _ 164 _ [(.double (own_Md i0 i2)), (.double (own_Nd i0 i1 i2 i3))]))
    refine own_ddiv X63 hx 165 rfl (hb hby at_164) (own_nn_of (own_W_fin i0 i1 i2 i3).1) (own_W i0 i1 i2 i3) rfl ?_
    refine own_dstore X63 hx 167 rfl (hb hby at_165) #[.val (.int i0), .val (.int i1), .val (.int i2), .val (.int i3), .val (.int (own_k i0)), .val (.int (own_D i0)), .val (.int (own_q i0)), .val (.int (own_s i0 i1)), .val (.int (own_r i0 i2)), .val (.long (own_v i3)), .second, .val (.double (FP.i2d (own_D i0))), .second, .val (.double (FP.i2d (own_s i0 i1))), .second, .val (.double (own_rate i0 i2)), .second, .val (.double (own_vd i3)), .second, .val (.ref b38), .val (.double (own_resp i0 i1 i3 (FP.ddiv (own_rate i0 i2) (own_satz i0 i1)))), .second, .val (.long (own_N i0 i1 i2 i3)), .second, .val (.long (own_M i0 i2)), .second, .val (.double (own_W i0 i1 i2 i3)), .second, .unset, .unset] rfl ?_
    refine own_ldcD X63 hx hZ hown (own_hw hw 57 rfl) 170 rfl (hb hby at_167) ?_
    refine own_iload X63 hx 172 rfl (hb hby at_170) rfl ?_
    refine own_i2d X63 hx 173 rfl (hb hby at_172) _ rfl ?_
    refine own_dmul X63 hx 174 rfl (hb hby at_173) (own_ex2_is i0 i1).nn (own_ex2 i0 i1) rfl ?_
    refine own_dload X63 hx 176 rfl (hb hby at_174) rfl ?_
    refine own_dadd X63 hx 177 rfl (hb hby at_176) (own_nn_of (own_want_nn i0 i1 i2 i3)) (own_want i0 i1 i2 i3) rfl ?_
    refine own_dstore X63 hx 179 rfl (hb hby at_177) #[.val (.int i0), .val (.int i1), .val (.int i2), .val (.int i3), .val (.int (own_k i0)), .val (.int (own_D i0)), .val (.int (own_q i0)), .val (.int (own_s i0 i1)), .val (.int (own_r i0 i2)), .val (.long (own_v i3)), .second, .val (.double (FP.i2d (own_D i0))), .second, .val (.double (FP.i2d (own_s i0 i1))), .second, .val (.double (own_rate i0 i2)), .second, .val (.double (own_vd i3)), .second, .val (.ref b38), .val (.double (own_resp i0 i1 i3 (FP.ddiv (own_rate i0 i2) (own_satz i0 i1)))), .second, .val (.long (own_N i0 i1 i2 i3)), .second, .val (.long (own_M i0 i2)), .second, .val (.double (own_W i0 i1 i2 i3)), .second, .val (.double (own_want i0 i1 i2 i3)), .second] rfl ?_
    refine own_dload X63 hx 181 rfl (hb hby at_179) rfl ?_
    refine own_dload X63 hx 183 rfl (hb hby at_181) rfl ?_
    refine own_dcmp X63 hx 184 rfl (hb hby at_183) (0 : Int32) hall.2.2.2.2.2.2 ?_
    refine own_ifNo X63 hx 187 rfl (hb hby at_184) (by decide) ?_
    refine own_iconst X63 hx 188 rfl (hb hby at_187) (1 : Int32) rfl ?_
    refine own_goto X63 hx 192 (hb hby at_188) (by decide) rfl ?_
    refine own_retW X63 S44 (Nat.le_trans zs62 (Nat.le_of_eq (congrArg Array.size e63.symm))) (some (.int (1 : Int32))) (fun h => by rw [Bd.returns] at h; cases h) Bd.notSynchronized (by decide) (by decide) ?_ (fun fs hr => retN X63 hx (t := .boolean) Bd.returns (by simp) (hb hby at_192) hr)
    show Q_rm0 Z i0 i1 i2 i3 h0 n0 _ T63.heap _
    rw [e63]
    exact ⟨rfl, N64⟩
  ·
    refine own_ifYes X0 hx 64 (hb hby at_53) ((if0 _ _).trans (feq hc37).2) (by decide) rfl ?_
    refine own_bipush X0 hx 66 rfl (hb hby at_64) (100 : Int32) rfl ?_
    refine own_iload X0 hx 68 rfl (hb hby at_66) rfl ?_
    refine own_iload X0 hx 70 rfl (hb hby at_68) rfl ?_
    refine own_imul X0 hx 71 rfl (hb hby at_70) _ rfl ?_
    refine own_isub X0 hx 72 rfl (hb hby at_71) _ rfl ?_
    refine own_i2d X0 hx 73 rfl (hb hby at_72) _ rfl ?_
    refine own_dstore X0 hx 75 rfl (hb hby at_73) #[.val (.int i0), .val (.int i1), .val (.int i2), .val (.int i3), .val (.int (own_k i0)), .val (.int (own_D i0)), .val (.int (own_q i0)), .val (.int (own_s i0 i1)), .val (.int (own_r i0 i2)), .val (.long (own_v i3)), .second, .val (.double (FP.i2d ((100 : Int32) - ((own_s i0 i1) * (own_D i0))))), .second, .unset, .unset, .unset, .unset, .unset, .unset, .unset, .unset, .unset, .unset, .unset, .unset, .unset, .unset, .unset, .unset, .unset] rfl ?_
    show own_Go _ _ _ _ _ (State.setTop _ (mkF _ 75 #[.val (.int i0), .val (.int i1), .val (.int i2), .val (.int i3), .val (.int (own_k i0)), .val (.int (own_D i0)), .val (.int (own_q i0)), .val (.int (own_s i0 i1)), .val (.int (own_r i0 i2)), .val (.long (own_v i3)), .second, .val (.double (own_base i0 i1)), .second, .unset, .unset, .unset, .unset, .unset, .unset, .unset, .unset, .unset, .unset, .unset, .unset, .unset, .unset, .unset, .unset, .unset] []))
    refine own_iload X0 hx 77 rfl (hb hby at_75) rfl ?_
    refine own_i2d X0 hx 78 rfl (hb hby at_77) _ rfl ?_
    refine own_dstore X0 hx 80 rfl (hb hby at_78) #[.val (.int i0), .val (.int i1), .val (.int i2), .val (.int i3), .val (.int (own_k i0)), .val (.int (own_D i0)), .val (.int (own_q i0)), .val (.int (own_s i0 i1)), .val (.int (own_r i0 i2)), .val (.long (own_v i3)), .second, .val (.double (own_base i0 i1)), .second, .val (.double (FP.i2d (own_s i0 i1))), .second, .unset, .unset, .unset, .unset, .unset, .unset, .unset, .unset, .unset, .unset, .unset, .unset, .unset, .unset, .unset] rfl ?_
    refine own_iload X0 hx 82 rfl (hb hby at_80) rfl ?_
    refine own_i2d X0 hx 83 rfl (hb hby at_82) _ rfl ?_
    refine own_ldcD X0 hx hZ hown (own_hw hw 2 rfl) 86 rfl (hb hby at_83) ?_
    refine own_ddiv X0 hx 87 rfl (hb hby at_86) (own_rate_is i0 i2).nn (own_rate i0 i2) rfl ?_
    refine own_dstore X0 hx 89 rfl (hb hby at_87) #[.val (.int i0), .val (.int i1), .val (.int i2), .val (.int i3), .val (.int (own_k i0)), .val (.int (own_D i0)), .val (.int (own_q i0)), .val (.int (own_s i0 i1)), .val (.int (own_r i0 i2)), .val (.long (own_v i3)), .second, .val (.double (own_base i0 i1)), .second, .val (.double (FP.i2d (own_s i0 i1))), .second, .val (.double (own_rate i0 i2)), .second, .unset, .unset, .unset, .unset, .unset, .unset, .unset, .unset, .unset, .unset, .unset, .unset, .unset] rfl ?_
    refine own_lload X0 hx 91 rfl (hb hby at_89) rfl ?_
    refine own_l2d X0 hx 92 rfl (hb hby at_91) _ rfl ?_
    refine own_dstore X0 hx 94 rfl (hb hby at_92) #[.val (.int i0), .val (.int i1), .val (.int i2), .val (.int i3), .val (.int (own_k i0)), .val (.int (own_D i0)), .val (.int (own_q i0)), .val (.int (own_s i0 i1)), .val (.int (own_r i0 i2)), .val (.long (own_v i3)), .second, .val (.double (own_base i0 i1)), .second, .val (.double (FP.i2d (own_s i0 i1))), .second, .val (.double (own_rate i0 i2)), .second, .val (.double (FP.l2d (own_v i3))), .second, .unset, .unset, .unset, .unset, .unset, .unset, .unset, .unset, .unset, .unset, .unset] rfl ?_
    show own_Go _ _ _ _ _ (State.setTop _ (mkF _ 94 #[.val (.int i0), .val (.int i1), .val (.int i2), .val (.int i3), .val (.int (own_k i0)), .val (.int (own_D i0)), .val (.int (own_q i0)), .val (.int (own_s i0 i1)), .val (.int (own_r i0 i2)), .val (.long (own_v i3)), .second, .val (.double (own_base i0 i1)), .second, .val (.double (FP.i2d (own_s i0 i1))), .second, .val (.double (own_rate i0 i2)), .second, .val (.double (own_vd i3)), .second, .unset, .unset, .unset, .unset, .unset, .unset, .unset, .unset, .unset, .unset, .unset] []))
    refine own_new X0 hx hZ hown (own_hw hw 3 rfl) (own_hw hw 4 rfl) (own_hw hw 5 rfl) e0 97 rfl (hb hby at_94) (by decide) (by decide) fun T65 h65 b65 g65 X65 e65 E65 A65 D65 => ?_
    have ge66 : n0 ≤ b65 := Nat.le_trans Z0 (Nat.le_of_eq g65.symm)
    have z67 := Nat.le_trans Z0 E65.1
    have f68 : Fld Z h65 b65 "com/example/headroom/headroom/CapacityPlan$Server" "name" "Ljava/lang/String;" .null := D65 (Or.inr (own_hw hw 26 rfl)) (ty := (.object "java/lang/String")) (by decide)
    have f69 : Fld Z h65 b65 "com/example/headroom/headroom/CapacityPlan$Server" "slope" "D" (.double (0 : UInt64)) := D65 (Or.inr (own_hw hw 28 rfl)) (ty := .double) (by decide)
    have f70 : Fld Z h65 b65 "com/example/headroom/headroom/CapacityPlan$Server" "base" "D" (.double (0 : UInt64)) := D65 (Or.inr (own_hw hw 30 rfl)) (ty := .double) (by decide)
    refine own_dup X65 hx 98 rfl (hb hby at_97) rfl ?_
    refine own_ldcS X65 hx hZ hown (own_hw hw 6 rfl) hSA e65 100 rfl (hb hby at_98) 4 (by decide) (by decide) (by decide) (by decide) fun b71 T71 h71 X71 e71 E71 S71 hZ hown => ?_
    have f72 := A65.ext E71
    have f73 := f68.ext E71
    have f74 := f69.ext E71
    have f75 := f70.ext E71
    have z76 := Nat.le_trans z67 E71.1
    have zs77 := Nat.le_refl h71.size
    refine own_dload X71 hx 102 rfl (hb hby at_100) rfl ?_
    refine own_dload X71 hx 104 rfl (hb hby at_102) rfl ?_
    refine own_special X71 hx hZ (y := (⟨"com/example/headroom/headroom/CapacityPlan$Server", "<init>", "(Ljava/lang/String;DD)V"⟩ : MethodName)) hown rfl (own_hw hw 14 rfl) (own_hw hw 15 rfl) (a := b65) (by decide) rfl (rm_init l Z a0 hw [] b65 b71 (FP.i2d (own_s i0 i1)) (own_base i0 i1) h71 n0 z76 f72 f73 f74 f75 ge66) (own_hw hw 16 rfl) (own_hw hw 5 rfl) (by decide) e71 (by rw [hml]; rfl) [(.ref b71), (.double (FP.i2d (own_s i0 i1))), (.double (own_base i0 i1))] 1 (by decide) (Nat.le_of_eq rfl) (by decide) (by decide) (lenOf own_pd3 rfl) rfl rfl 107 rfl (hb hby at_104) fun v78 T78 Lc78 X78 hQ78 => ?_
    obtain ⟨rfl, Nq78, Kq78, f79, f80, f81, f82⟩ := hQ78
    have N83 := Fr.app N0 Nq78
    have f84 := f72.keep Kq78
    have z88 := Nat.le_trans z76 Kq78.1
    have zs89 := Nat.le_trans zs77 Kq78.1
    show own_Go _ _ _ _ _ (State.setTop _ (mkF _ 107 _ [(.ref b65)]))
    refine own_astore X78 hx 109 rfl (hb hby at_107) rfl #[.val (.int i0), .val (.int i1), .val (.int i2), .val (.int i3), .val (.int (own_k i0)), .val (.int (own_D i0)), .val (.int (own_q i0)), .val (.int (own_s i0 i1)), .val (.int (own_r i0 i2)), .val (.long (own_v i3)), .second, .val (.double (own_base i0 i1)), .second, .val (.double (FP.i2d (own_s i0 i1))), .second, .val (.double (own_rate i0 i2)), .second, .val (.double (own_vd i3)), .second, .val (.ref b65), .unset, .unset, .unset, .unset, .unset, .unset, .unset, .unset, .unset, .unset] rfl ?_
    refine own_aload X78 hx 111 rfl (hb hby at_109) rfl rfl ?_
    refine own_dload X78 hx 113 rfl (hb hby at_111) rfl ?_
    refine own_dload X78 hx 115 rfl (hb hby at_113) rfl ?_
    obtain ⟨κ, hκ, eκ⟩ := own_D_pow i0
    have hld := own_load_is i0 i1 i2 hc37 hκ eκ
    have hall := own_all i0 i1 i2 i3 hld hκ eκ (own_r_rng i0 i2).1 (own_r_rng i0 i2).2 rfl
    refine own_virtual X78 hx hZ (y := (⟨"com/example/headroom/headroom/CapacityPlan$Server", "response", "(DD)D"⟩ : MethodName)) (z := (⟨"com/example/headroom/headroom/CapacityPlan$Server", "response", "(DD)D"⟩ : MethodName)) hown (own_hw hw 31 rfl) (own_hw hw 32 rfl) (own_hw hw 34 rfl) (own_hw hw 33 rfl) rfl (a := b65) f79 (by decide) (rm_resp l Z a0 hw [] b65 (own_rate i0 i2) (own_vd i3) (FP.i2d (own_s i0 i1)) (own_base i0 i1) T78.heap n0 z88 f81 f82 f79 (own_cap_is i0 i1).nn (own_sat_is i0 i1 hc37).nn hld.nn (own_ex_is i0 i1).nn hall.1 (own_v2_is i3).nn (own_v21_is i3).nn hall.2.1 hall.2.2.1 hall.2.2.2.1 hall.2.2.2.2.1 hall.2.2.2.2.2.1) (own_hw hw 35 rfl) (own_hw hw 5 rfl) (by decide) rfl (by rw [hml]; rfl) [(.double (own_rate i0 i2)), (.double (own_vd i3))] 0 (by decide) (Nat.le_of_eq rfl) (by decide) (by decide) (lenOf own_pd4 rfl) rfl rfl 118 rfl (hb hby at_115) fun v90 T90 Lc90 X90 hQ90 => ?_
    obtain ⟨rfl, Nq90, e90⟩ := hQ90
    have N91 := Fr.app N83 Nq90
    show own_Go _ _ _ _ _ (State.setTop _ (mkF _ 118 _ [(.double (own_resp i0 i1 i3 (FP.ddiv (own_rate i0 i2) (own_sat i0 i1))))]))
    refine own_dstore X90 hx 120 rfl (hb hby at_118) #[.val (.int i0), .val (.int i1), .val (.int i2), .val (.int i3), .val (.int (own_k i0)), .val (.int (own_D i0)), .val (.int (own_q i0)), .val (.int (own_s i0 i1)), .val (.int (own_r i0 i2)), .val (.long (own_v i3)), .second, .val (.double (own_base i0 i1)), .second, .val (.double (FP.i2d (own_s i0 i1))), .second, .val (.double (own_rate i0 i2)), .second, .val (.double (own_vd i3)), .second, .val (.ref b65), .val (.double (own_resp i0 i1 i3 (FP.ddiv (own_rate i0 i2) (own_sat i0 i1)))), .second, .unset, .unset, .unset, .unset, .unset, .unset, .unset, .unset] rfl ?_
    refine own_ldcJ X90 hx hZ hown (own_hw hw 54 rfl) 123 rfl (hb hby at_120) ?_
    refine own_iload X90 hx 125 rfl (hb hby at_123) rfl ?_
    refine own_i2l X90 hx 126 rfl (hb hby at_125) _ rfl ?_
    refine own_lmul X90 hx 127 rfl (hb hby at_126) _ rfl ?_
    refine own_iload X90 hx 129 rfl (hb hby at_127) rfl ?_
    refine own_i2l X90 hx 130 rfl (hb hby at_129) _ rfl ?_
    refine own_lmul X90 hx 131 rfl (hb hby at_130) _ rfl ?_
    refine own_lconst X90 hx 132 rfl (hb hby at_131) (1 : Int64) rfl ?_
    refine own_lload X90 hx 134 rfl (hb hby at_132) rfl ?_
    refine own_lload X90 hx 136 rfl (hb hby at_134) rfl ?_
    refine own_lmul X90 hx 137 rfl (hb hby at_136) _ rfl ?_
    refine own_ladd X90 hx 138 rfl (hb hby at_137) _ rfl ?_
    refine own_lmul X90 hx 139 rfl (hb hby at_138) _ rfl ?_
    refine own_lstore X90 hx 141 rfl (hb hby at_139) #[.val (.int i0), .val (.int i1), .val (.int i2), .val (.int i3), .val (.int (own_k i0)), .val (.int (own_D i0)), .val (.int (own_q i0)), .val (.int (own_s i0 i1)), .val (.int (own_r i0 i2)), .val (.long (own_v i3)), .second, .val (.double (own_base i0 i1)), .second, .val (.double (FP.i2d (own_s i0 i1))), .second, .val (.double (own_rate i0 i2)), .second, .val (.double (own_vd i3)), .second, .val (.ref b65), .val (.double (own_resp i0 i1 i3 (FP.ddiv (own_rate i0 i2) (own_sat i0 i1)))), .second, .val (.long ((((10 : Int64) * ((own_s i0 i1).toInt64)) * ((own_r i0 i2).toInt64)) * ((1 : Int64) + ((own_v i3) * (own_v i3))))), .second, .unset, .unset, .unset, .unset, .unset, .unset] rfl ?_
    show own_Go _ _ _ _ _ (State.setTop _ (mkF _ 141 #[.val (.int i0), .val (.int i1), .val (.int i2), .val (.int i3), .val (.int (own_k i0)), .val (.int (own_D i0)), .val (.int (own_q i0)), .val (.int (own_s i0 i1)), .val (.int (own_r i0 i2)), .val (.long (own_v i3)), .second, .val (.double (own_base i0 i1)), .second, .val (.double (FP.i2d (own_s i0 i1))), .second, .val (.double (own_rate i0 i2)), .second, .val (.double (own_vd i3)), .second, .val (.ref b65), .val (.double (own_resp i0 i1 i3 (FP.ddiv (own_rate i0 i2) (own_sat i0 i1)))), .second, .val (.long (own_N i0 i1 i2 i3)), .second, .unset, .unset, .unset, .unset, .unset, .unset] []))
    refine own_ldcJ X90 hx hZ hown (own_hw hw 55 rfl) 144 rfl (hb hby at_141) ?_
    refine own_ldcJ X90 hx hZ hown (own_hw hw 56 rfl) 147 rfl (hb hby at_144) ?_
    refine own_iload X90 hx 149 rfl (hb hby at_147) rfl ?_
    refine own_i2l X90 hx 150 rfl (hb hby at_149) _ rfl ?_
    refine own_lmul X90 hx 151 rfl (hb hby at_150) _ rfl ?_
    refine own_iload X90 hx 153 rfl (hb hby at_151) rfl ?_
    refine own_i2l X90 hx 154 rfl (hb hby at_153) _ rfl ?_
    refine own_lsub X90 hx 155 rfl (hb hby at_154) _ rfl ?_
    refine own_lmul X90 hx 156 rfl (hb hby at_155) _ rfl ?_
    refine own_lstore X90 hx 158 rfl (hb hby at_156) #[.val (.int i0), .val (.int i1), .val (.int i2), .val (.int i3), .val (.int (own_k i0)), .val (.int (own_D i0)), .val (.int (own_q i0)), .val (.int (own_s i0 i1)), .val (.int (own_r i0 i2)), .val (.long (own_v i3)), .second, .val (.double (own_base i0 i1)), .second, .val (.double (FP.i2d (own_s i0 i1))), .second, .val (.double (own_rate i0 i2)), .second, .val (.double (own_vd i3)), .second, .val (.ref b65), .val (.double (own_resp i0 i1 i3 (FP.ddiv (own_rate i0 i2) (own_sat i0 i1)))), .second, .val (.long (own_N i0 i1 i2 i3)), .second, .val (.long ((2 : Int64) * (((4 : Int64) * ((own_D i0).toInt64)) - ((own_r i0 i2).toInt64)))), .second, .unset, .unset, .unset, .unset] rfl ?_
    show own_Go _ _ _ _ _ (State.setTop _ (mkF _ 158 #[.val (.int i0), .val (.int i1), .val (.int i2), .val (.int i3), .val (.int (own_k i0)), .val (.int (own_D i0)), .val (.int (own_q i0)), .val (.int (own_s i0 i1)), .val (.int (own_r i0 i2)), .val (.long (own_v i3)), .second, .val (.double (own_base i0 i1)), .second, .val (.double (FP.i2d (own_s i0 i1))), .second, .val (.double (own_rate i0 i2)), .second, .val (.double (own_vd i3)), .second, .val (.ref b65), .val (.double (own_resp i0 i1 i3 (FP.ddiv (own_rate i0 i2) (own_sat i0 i1)))), .second, .val (.long (own_N i0 i1 i2 i3)), .second, .val (.long (own_M i0 i2)), .second, .unset, .unset, .unset, .unset] []))
    refine own_lload X90 hx 160 rfl (hb hby at_158) rfl ?_
    refine own_l2d X90 hx 161 rfl (hb hby at_160) _ rfl ?_
    show own_Go _ _ _ _ _ (State.setTop _ (mkF _ 161 _ [(.double (own_Nd i0 i1 i2 i3))]))
    refine own_lload X90 hx 163 rfl (hb hby at_161) rfl ?_
    refine own_l2d X90 hx 164 rfl (hb hby at_163) _ rfl ?_
    show own_Go _ _ _ _ _ (State.setTop _ (mkF _ 164 _ [(.double (own_Md i0 i2)), (.double (own_Nd i0 i1 i2 i3))]))
    refine own_ddiv X90 hx 165 rfl (hb hby at_164) (own_nn_of (own_W_fin i0 i1 i2 i3).1) (own_W i0 i1 i2 i3) rfl ?_
    refine own_dstore X90 hx 167 rfl (hb hby at_165) #[.val (.int i0), .val (.int i1), .val (.int i2), .val (.int i3), .val (.int (own_k i0)), .val (.int (own_D i0)), .val (.int (own_q i0)), .val (.int (own_s i0 i1)), .val (.int (own_r i0 i2)), .val (.long (own_v i3)), .second, .val (.double (own_base i0 i1)), .second, .val (.double (FP.i2d (own_s i0 i1))), .second, .val (.double (own_rate i0 i2)), .second, .val (.double (own_vd i3)), .second, .val (.ref b65), .val (.double (own_resp i0 i1 i3 (FP.ddiv (own_rate i0 i2) (own_sat i0 i1)))), .second, .val (.long (own_N i0 i1 i2 i3)), .second, .val (.long (own_M i0 i2)), .second, .val (.double (own_W i0 i1 i2 i3)), .second, .unset, .unset] rfl ?_
    refine own_ldcD X90 hx hZ hown (own_hw hw 57 rfl) 170 rfl (hb hby at_167) ?_
    refine own_iload X90 hx 172 rfl (hb hby at_170) rfl ?_
    refine own_i2d X90 hx 173 rfl (hb hby at_172) _ rfl ?_
    refine own_dmul X90 hx 174 rfl (hb hby at_173) (own_ex2_is i0 i1).nn (own_ex2 i0 i1) rfl ?_
    refine own_dload X90 hx 176 rfl (hb hby at_174) rfl ?_
    refine own_dadd X90 hx 177 rfl (hb hby at_176) (own_nn_of (own_want_nn i0 i1 i2 i3)) (own_want i0 i1 i2 i3) rfl ?_
    refine own_dstore X90 hx 179 rfl (hb hby at_177) #[.val (.int i0), .val (.int i1), .val (.int i2), .val (.int i3), .val (.int (own_k i0)), .val (.int (own_D i0)), .val (.int (own_q i0)), .val (.int (own_s i0 i1)), .val (.int (own_r i0 i2)), .val (.long (own_v i3)), .second, .val (.double (own_base i0 i1)), .second, .val (.double (FP.i2d (own_s i0 i1))), .second, .val (.double (own_rate i0 i2)), .second, .val (.double (own_vd i3)), .second, .val (.ref b65), .val (.double (own_resp i0 i1 i3 (FP.ddiv (own_rate i0 i2) (own_sat i0 i1)))), .second, .val (.long (own_N i0 i1 i2 i3)), .second, .val (.long (own_M i0 i2)), .second, .val (.double (own_W i0 i1 i2 i3)), .second, .val (.double (own_want i0 i1 i2 i3)), .second] rfl ?_
    refine own_dload X90 hx 181 rfl (hb hby at_179) rfl ?_
    refine own_dload X90 hx 183 rfl (hb hby at_181) rfl ?_
    refine own_dcmp X90 hx 184 rfl (hb hby at_183) (0 : Int32) hall.2.2.2.2.2.2 ?_
    refine own_ifNo X90 hx 187 rfl (hb hby at_184) (by decide) ?_
    refine own_iconst X90 hx 188 rfl (hb hby at_187) (1 : Int32) rfl ?_
    refine own_goto X90 hx 192 (hb hby at_188) (by decide) rfl ?_
    refine own_retW X90 S71 (Nat.le_trans zs89 (Nat.le_of_eq (congrArg Array.size e90.symm))) (some (.int (1 : Int32))) (fun h => by rw [Bd.returns] at h; cases h) Bd.notSynchronized (by decide) (by decide) ?_ (fun fs hr => retN X90 hx (t := .boolean) Bd.returns (by simp) (hb hby at_192) hr)
    show Q_rm0 Z i0 i1 i2 i3 h0 n0 _ T90.heap _
    rw [e90]
    exact ⟨rfl, N91⟩
set_option maxRecDepth 65536 in
set_option maxHeartbeats 40000000 in
theorem comes_1 {Post : Tables → Env → Array Value → State → Outcome → State → Prop} (hpost : ∀ tb e args s v u, (limb_1_1.after args s (.returned v) u = true ∧ limb_1_2.after args s (.returned v) u = true ∧ True) → ReturnedEndW s (.returned v) u (Jvm.fieldLocs frame_1_writes args s ++ Jvm.arrayLocs frame_1_arrays args s ++ Jvm.staticLocs frame_1_statics s) 16 1152 → Post tb e args s (.returned v) u) :
    ArmFor flags0 classFile x code maxLocals ret World_1 tables_1 room_1 Calls_1 rest_1 Pre_1 Post := by
  intro l hfl _ _ p e ha hc hk s m args below hf hA hF happ hP
  obtain ⟨hcalls, hrest, hpre⟩ := hP
  obtain ⟨-, -, -, hnamed, -, -, -, hat⟩ := (Spec.applies_iff hf).mp happ
  obtain ⟨hg, hn⟩ := and_e (Cond.before_iff.mp (show (Jvm.Cond.and given_1 narrow_1).before args s = true from hpre))
  obtain ⟨hcount, hg1⟩ := and_e hg
  obtain ⟨ha0, hgr0⟩ := and_e hg1
  obtain ⟨ha1, hgr1⟩ := and_e hgr0
  obtain ⟨ha2, hgr2⟩ := and_e hgr1
  obtain ⟨w0, w1, w2, w3, rfl⟩ : ∃ w0 w1 w2 w3 : Value, args = #[w0, w1, w2, w3] := by
    have hs : args.size = 4 := by simpa [Cond.value, given_1] using hcount
    obtain ⟨L⟩ := args
    match L, hs with
    | [w0, w1, w2, w3], _ => exact ⟨w0, w1, w2, w3, rfl⟩
  have hw := fun d (hd : d ∈ tables_1) => atoms_spec (ws := Jvm.Cond.code x code maxLocals ret :: tables_1) hat d (List.mem_cons_of_mem _ hd)
  have hfit : Fit s := fun {y c} hc i hi => by
    obtain ⟨ha, rfl⟩ := Array.getElem?_eq_some_iff.mp hc
    have q := List.all_eq_true.mp ((Array.all_eq_true_iff_forall_mem.mp hF) _ (Array.getElem_mem ha)) i (List.mem_range.mpr hi)
    simpa [Array.getElem?_eq_getElem hi] using q
  obtain ⟨i0, ei0⟩ := is_v ha0
  obtain rfl : w0 = (.int i0) := Option.some.inj ei0
  obtain ⟨i1, ei1⟩ := is_v ha1
  obtain rfl : w1 = (.int i1) := Option.some.inj ei1
  obtain ⟨i2, ei2⟩ := is_v ha2
  obtain rfl : w2 = (.int i2) := Option.some.inj ei2
  obtain ⟨i3, ei3⟩ := is_v hgr2
  obtain rfl : w3 = (.int i3) := Option.some.inj ei3
  obtain ⟨n, o, h1, h2, h3, _, L, rfl, ⟨rfl, N⟩, hq⟩ := rm0 l s _ hw tables_1 i0 i1 i2 i3 s.heap s.heap.size (Nat.le_refl _)  p e ha hc hk s m _ below hf ((Spec.applies_iff_loose hf).mp happ).1 ⟨rfl, State.Warmed39.refl s, rfl⟩ trivial
  refine ⟨n, _, h1, h2, h3, hpost _ _ _ _ _ _ ⟨Cond.after_iff.mpr rfl, Cond.after_iff.mpr (eq_i res_at (Term.int_eval (1)) rfl), trivial⟩ ⟨hq.1, hq.2.1, hq.2.2.1, (hq.2.2.2.sift fun y hy => Or.inr (N y hy)).mono (by decide) (by decide)⟩⟩
theorem main_1_1 : Claimed_1_1 := comes_1 fun _ _ _ _ _ _ h hF => ⟨h.1, hF⟩
theorem main_1_2 : Claimed_1_2 := comes_1 fun _ _ _ _ _ _ h hF => ⟨h.2.1, hF⟩
end Jvm.Pilot.@@N@@
namespace Jvm.Pilot.@@N@@
open Jvm Jvm.ClassFile Sem Op Lib Jvm.Free Jvm.Stand Jvm.Pilot.@@N@@.Jvm.D
/-! MADE BY PROGRAM (witnessworld.py) out of the Statement's table words and the real class files: 15 classes; the members and pool entries that the words name. The judged class is class 1, her method 1. -/
namespace start1
open Jvm.ClassFile
def u (s : String) : CpInfo := .utf8 (stringToUtf16 s)
/-- a pool by its gaps: so many unusable entries, then the entry; so many at the end -/
def gap : Nat → List CpInfo → List CpInfo
  | 0, r => r
  | n + 1, r => .unusable :: gap n r
def poolList (es : List (Nat × CpInfo)) (last : Nat) : List CpInfo := es.foldr (fun e r => gap e.1 (e.2 :: r)) (gap last [])
def pool (es : List (Nat × CpInfo)) (last : Nat) : Array CpInfo := ⟨poolList es last⟩
def fileOf (pool : Array CpInfo) (this : Nat) (attrs : Array Attribute := #[]) (ms : Array MethodInfo := #[]) (fl : Nat := 33) (sup : Nat := 0) (ifs : Array Nat := #[]) (fds : Array FieldInfo := #[]) : ClassFile where
  minorVersion := 0
  majorVersion := 65
  constantPool := pool
  accessFlags := fl
  thisClass := this
  superClass := sup
  interfaces := ifs
  fields := fds
  methods := ms
  attributes := attrs
def plain (name : String) (sup : Option ClassId) : Class where
  name := name
  kind := .ordinary
  loader := none
  accessFlags := 33
  super := sup
  interfaces := #[]
  cf := none
  fields := #[]
  methods := #[]
  instanceTypes := #[]
  staticTypes := #[]
  resolved := #[]
  callSites := []
  init := .initialized
  statics := none
  mirror := none

def pool0 : Array CpInfo := pool [(5, u "<init>"), (0, u "()V"), (1, .class_ 10), (1, u "java/lang/Object")] 113

def k0c0 : Code := { maxStack := 0, maxLocals := 1, code := object_method_1_code, exceptionTable := #[], attributes := #[] }
def k0m0 : Method := { name := "<init>", desc := "()V", sig := { parameters := [], returnType := none }, accessFlags := 1, code := some k0c0 }
/-- java/lang/Object -/
def k0 : Class := { plain "java/lang/Object" none with
  accessFlags := 33
  interfaces := #[]
  cf := some (fileOf pool0 8 #[] #[{ accessFlags := 1, nameIndex := 5, descriptorIndex := 6, attributes := #[] }] 33 0 #[] #[])
  fields := #[]
  methods := #[k0m0]
  instanceTypes := #[]
  staticTypes := #[]
  resolved := Array.replicate 124 none
  statics := none }

def pool1 : Array CpInfo := pool [(2, .class_ 4), (1, u "java/lang/Object"), (0, u "<init>"), (0, u "()V"), (0, .integer 2147483647), (0, .integer 1048576), (0, .double 4616189618054758400), (1, .class_ 12), (0, u "com/example/headroom/headroom/CapacityPlan$Server"), (0, .string 14), (0, u "s"), (0, .methodref 11 16), (0, .nameAndType 5 17), (0, u "(Ljava/lang/String;DD)V"), (0, .methodref 11 19), (0, .nameAndType 20 21), (0, u "response"), (0, u "(DD)D"), (0, .long 10), (1, .long 2), (1, .long 4), (1, .double 4621819117588971520), (1, .class_ 31), (0, u "com/example/headroom/headroom/ServerResponsePinLaw"), (2, u "law"), (0, u "(IIII)Z")] 7

def k1m0 : Method := { name := "<init>", desc := "()V", sig := { parameters := [], returnType := none }, accessFlags := 2, code := none }
def k1c1 : Code := { maxStack := 8, maxLocals := 30, code := code, exceptionTable := #[], attributes := #[] }
def k1m1 : Method := { name := "law", desc := "(IIII)Z", sig := { parameters := [.int, .int, .int, .int], returnType := some .boolean }, accessFlags := 9, code := some k1c1 }
/-- com/example/headroom/headroom/ServerResponsePinLaw -/
def k1 : Class := { plain "com/example/headroom/headroom/ServerResponsePinLaw" (some 0) with
  accessFlags := 49
  interfaces := #[]
  cf := some (fileOf pool1 30 #[] #[{ accessFlags := 2, nameIndex := 5, descriptorIndex := 6, attributes := #[] }, { accessFlags := 9, nameIndex := 34, descriptorIndex := 35, attributes := #[] }] 49 2 #[] #[])
  fields := #[]
  methods := #[k1m0, k1m1]
  instanceTypes := #[]
  staticTypes := #[]
  resolved := Array.replicate 43 none
  statics := none }

def pool2 : Array CpInfo := pool [(1, .methodref 2 3), (0, .class_ 4), (0, .nameAndType 5 6), (0, u "java/lang/Object"), (0, u "<init>"), (0, u "()V"), (0, .class_ 8), (0, u "java/lang/Record")] 13

def k2c0 : Code := { maxStack := 1, maxLocals := 1, code := jdk_30_method_1_code, exceptionTable := #[], attributes := #[] }
def k2m0 : Method := { name := "<init>", desc := "()V", sig := { parameters := [], returnType := none }, accessFlags := 4, code := some k2c0 }
/-- java/lang/Record -/
def k2 : Class := { plain "java/lang/Record" (some 0) with
  accessFlags := 1057
  interfaces := #[]
  cf := some (fileOf pool2 7 #[] #[{ accessFlags := 4, nameIndex := 5, descriptorIndex := 6, attributes := #[] }] 1057 2 #[] #[])
  fields := #[]
  methods := #[k2m0]
  instanceTypes := #[]
  staticTypes := #[]
  resolved := Array.replicate 22 none
  statics := none }

def pool3 : Array CpInfo := pool [(1, .class_ 2), (0, u "com/example/headroom/headroom/CapacityPlan"), (0, .methodref 4 5), (0, .class_ 6), (0, .nameAndType 7 8), (0, u "java/lang/Record"), (0, u "<init>"), (0, u "()V"), (0, .fieldref 10 11), (0, .class_ 12), (0, .nameAndType 13 14), (0, u "com/example/headroom/headroom/CapacityPlan$Server"), (0, u "name"), (0, u "Ljava/lang/String;"), (0, .fieldref 10 16), (0, .nameAndType 17 18), (0, u "slope"), (0, u "D"), (0, .fieldref 10 20), (0, .nameAndType 21 18), (0, u "base"), (0, .double 4636737291354636288), (1, .double 4621819117588971520), (1, .methodref 10 27), (0, .nameAndType 28 29), (0, u "saturation"), (0, u "()D"), (0, .methodref 10 31), (0, .nameAndType 32 33), (0, u "load"), (0, u "(D)D"), (0, .methodref 10 35), (0, .nameAndType 36 29), (0, u "execution"), (0, .double 4611686018427387904), (13, u "(Ljava/lang/String;DD)V"), (3, u "response"), (0, u "(DD)D")] 27

def k3c0 : Code := { maxStack := 3, maxLocals := 6, code := prog_5_method_1_code, exceptionTable := #[], attributes := #[] }
def k3m0 : Method := { name := "<init>", desc := "(Ljava/lang/String;DD)V", sig := { parameters := [(.object "java/lang/String"), .double, .double], returnType := none }, accessFlags := 0, code := some k3c0 }
def k3c1 : Code := { maxStack := 4, maxLocals := 1, code := prog_5_method_2_code, exceptionTable := #[], attributes := #[] }
def k3m1 : Method := { name := "saturation", desc := "()D", sig := { parameters := [], returnType := some .double }, accessFlags := 0, code := some k3c1 }
def k3c2 : Code := { maxStack := 4, maxLocals := 1, code := prog_5_method_3_code, exceptionTable := #[], attributes := #[] }
def k3m2 : Method := { name := "execution", desc := "()D", sig := { parameters := [], returnType := some .double }, accessFlags := 0, code := some k3c2 }
def k3c3 : Code := { maxStack := 4, maxLocals := 3, code := prog_5_method_4_code, exceptionTable := #[], attributes := #[] }
def k3m3 : Method := { name := "load", desc := "(D)D", sig := { parameters := [.double], returnType := some .double }, accessFlags := 0, code := some k3c3 }
def k3c4 : Code := { maxStack := 8, maxLocals := 11, code := prog_5_method_5_code, exceptionTable := #[], attributes := #[] }
def k3m4 : Method := { name := "response", desc := "(DD)D", sig := { parameters := [.double, .double], returnType := some .double }, accessFlags := 0, code := some k3c4 }
/-- com/example/headroom/headroom/CapacityPlan$Server -/
def k3 : Class := { plain "com/example/headroom/headroom/CapacityPlan$Server" (some 2) with
  accessFlags := 48
  interfaces := #[]
  cf := some (fileOf pool3 10 #[.nestHost 1] #[{ accessFlags := 0, nameIndex := 7, descriptorIndex := 51, attributes := #[] }, { accessFlags := 0, nameIndex := 28, descriptorIndex := 29, attributes := #[] }, { accessFlags := 0, nameIndex := 36, descriptorIndex := 29, attributes := #[] }, { accessFlags := 0, nameIndex := 32, descriptorIndex := 33, attributes := #[] }, { accessFlags := 0, nameIndex := 55, descriptorIndex := 56, attributes := #[] }] 48 4 #[] #[{ accessFlags := 18, nameIndex := 13, descriptorIndex := 14, attributes := #[] }, { accessFlags := 18, nameIndex := 17, descriptorIndex := 18, attributes := #[] }, { accessFlags := 18, nameIndex := 21, descriptorIndex := 18, attributes := #[] }])
  fields := #[{ name := "name", type := (.object "java/lang/String"), accessFlags := 18, slot := 0, constantValue := 0 }, { name := "slope", type := .double, accessFlags := 18, slot := 1, constantValue := 0 }, { name := "base", type := .double, accessFlags := 18, slot := 2, constantValue := 0 }]
  methods := #[k3m0, k3m1, k3m2, k3m3, k3m4]
  instanceTypes := #[(.object "java/lang/String"), .double, .double]
  staticTypes := #[]
  resolved := Array.replicate 84 none
  statics := none }

def pool4 : Array CpInfo := pool [(1, .class_ 2), (0, u "java/io/Serializable"), (0, .class_ 4), (0, u "java/lang/Object")] 2

/-- java/io/Serializable -/
def k4 : Class := { plain "java/io/Serializable" (some 0) with
  accessFlags := 1537
  interfaces := #[]
  cf := some (fileOf pool4 1 #[] #[] 1537 3 #[] #[])
  fields := #[]
  methods := #[]
  instanceTypes := #[]
  staticTypes := #[]
  resolved := Array.replicate 7 none
  statics := none }

def pool5 : Array CpInfo := pool [(1, .class_ 2), (0, u "java/lang/Comparable"), (0, .class_ 4), (0, u "java/lang/Object")] 7

/-- java/lang/Comparable -/
def k5 : Class := { plain "java/lang/Comparable" (some 0) with
  accessFlags := 1537
  interfaces := #[]
  cf := some (fileOf pool5 1 #[] #[] 1537 3 #[] #[])
  fields := #[]
  methods := #[]
  instanceTypes := #[]
  staticTypes := #[]
  resolved := Array.replicate 12 none
  statics := none }

def pool6 : Array CpInfo := pool [(2, .class_ 4), (1, u "java/lang/CharSequence"), (42, .class_ 48), (0, u "java/lang/CharSequence$1CodePointIterator"), (10, .class_ 60), (0, u "java/lang/CharSequence$1CharIterator"), (5, .class_ 67), (0, u "java/lang/Object")] 63

/-- java/lang/CharSequence -/
def k6 : Class := { plain "java/lang/CharSequence" (some 0) with
  accessFlags := 1537
  interfaces := #[]
  cf := some (fileOf pool6 2 #[.nestMembers #[47, 59]] #[] 1537 66 #[] #[])
  fields := #[]
  methods := #[]
  instanceTypes := #[]
  staticTypes := #[]
  resolved := Array.replicate 131 none
  statics := none }

def pool7 : Array CpInfo := pool [(1, .class_ 2), (0, u "java/lang/constant/Constable"), (0, .class_ 4), (0, u "java/lang/Object")] 6

/-- java/lang/constant/Constable -/
def k7 : Class := { plain "java/lang/constant/Constable" (some 0) with
  accessFlags := 1537
  interfaces := #[]
  cf := some (fileOf pool7 1 #[] #[] 1537 3 #[] #[])
  fields := #[]
  methods := #[]
  instanceTypes := #[]
  staticTypes := #[]
  resolved := Array.replicate 11 none
  statics := none }

def pool8 : Array CpInfo := pool [(1, .class_ 2), (0, u "java/lang/constant/ConstantDesc"), (0, .class_ 4), (0, u "java/lang/Object")] 32

/-- java/lang/constant/ConstantDesc -/
def k8 : Class := { plain "java/lang/constant/ConstantDesc" (some 0) with
  accessFlags := 1537
  interfaces := #[]
  cf := some (fileOf pool8 1 #[] #[] 1537 3 #[] #[])
  fields := #[]
  methods := #[]
  instanceTypes := #[]
  staticTypes := #[]
  resolved := Array.replicate 37 none
  statics := none }

def pool9 : Array CpInfo := pool [(2, .class_ 4), (1, u "java/lang/Object"), (0, u "<init>"), (0, u "()V"), (3, .class_ 12), (1, u "java/lang/String"), (0, u "value"), (0, u "[B"), (2, u "coder"), (0, u "B"), (2, u "hash"), (0, u "I"), (2, u "hashIsZero"), (0, u "Z"), (13, u "COMPACT_STRINGS"), (534, .class_ 576), (0, u "java/lang/CharSequence"), (22, u "CASE_INSENSITIVE_ORDER"), (0, u "Ljava/util/Comparator;"), (500, u "serialPersistentFields"), (0, u "[Ljava/io/ObjectStreamField;"), (0, .class_ 1104), (0, u "java/lang/String$CaseInsensitiveComparator"), (1, .class_ 1107), (0, u "java/io/Serializable"), (0, .class_ 1109), (0, u "java/lang/Comparable"), (0, .class_ 1111), (0, u "java/lang/constant/Constable"), (0, .class_ 1113), (0, u "java/lang/constant/ConstantDesc"), (2, u "serialVersionUID"), (0, u "J"), (3, u "REPL"), (0, u "C"), (2, u "LATIN1"), (1, u "UTF16")] 323

def k9m0 : Method := { name := "<init>", desc := "()V", sig := { parameters := [], returnType := none }, accessFlags := 1, code := none }
/-- java/lang/String -/
def k9 : Class := { plain "java/lang/String" (some 0) with
  accessFlags := 49
  interfaces := #[4, 5, 6, 7, 8]
  cf := some (fileOf pool9 10 #[.nestMembers #[1103]] #[{ accessFlags := 1, nameIndex := 5, descriptorIndex := 6, attributes := #[] }] 49 2 #[1106, 1108, 575, 1110, 1112] #[{ accessFlags := 18, nameIndex := 13, descriptorIndex := 14, attributes := #[] }, { accessFlags := 18, nameIndex := 17, descriptorIndex := 18, attributes := #[] }, { accessFlags := 2, nameIndex := 21, descriptorIndex := 22, attributes := #[] }, { accessFlags := 2, nameIndex := 25, descriptorIndex := 26, attributes := #[] }, { accessFlags := 26, nameIndex := 1116, descriptorIndex := 1117, attributes := #[] }, { accessFlags := 24, nameIndex := 40, descriptorIndex := 26, attributes := #[] }, { accessFlags := 26, nameIndex := 1101, descriptorIndex := 1102, attributes := #[] }, { accessFlags := 26, nameIndex := 1121, descriptorIndex := 1122, attributes := #[] }, { accessFlags := 25, nameIndex := 599, descriptorIndex := 600, attributes := #[] }, { accessFlags := 24, nameIndex := 1125, descriptorIndex := 18, attributes := #[] }, { accessFlags := 24, nameIndex := 1127, descriptorIndex := 18, attributes := #[] }])
  fields := #[{ name := "value", type := (.array .byte), accessFlags := 18, slot := 0, constantValue := 0 }, { name := "coder", type := .byte, accessFlags := 18, slot := 1, constantValue := 0 }, { name := "hash", type := .int, accessFlags := 2, slot := 2, constantValue := 0 }, { name := "hashIsZero", type := .boolean, accessFlags := 2, slot := 3, constantValue := 0 }, { name := "serialVersionUID", type := .long, accessFlags := 26, slot := 0, constantValue := 0 }, { name := "COMPACT_STRINGS", type := .boolean, accessFlags := 24, slot := 1, constantValue := 0 }, { name := "serialPersistentFields", type := (.array (.object "java/io/ObjectStreamField")), accessFlags := 26, slot := 2, constantValue := 0 }, { name := "REPL", type := .char, accessFlags := 26, slot := 3, constantValue := 0 }, { name := "CASE_INSENSITIVE_ORDER", type := (.object "java/util/Comparator"), accessFlags := 25, slot := 4, constantValue := 0 }, { name := "LATIN1", type := .byte, accessFlags := 24, slot := 5, constantValue := 0 }, { name := "UTF16", type := .byte, accessFlags := 24, slot := 6, constantValue := 0 }]
  methods := #[k9m0]
  instanceTypes := #[(.array .byte), .byte, .int, .boolean]
  staticTypes := #[.long, .boolean, (.array (.object "java/io/ObjectStreamField")), .char, (.object "java/util/Comparator"), .byte, .byte]
  resolved := Array.replicate 1451 none
  statics := none }

def pool10 : Array CpInfo := pool [(1, u "java/lang/Cloneable"), (0, .class_ 1), (0, u "java/lang/Object"), (0, .class_ 3)] 3

/-- java/lang/Cloneable -/
def k10 : Class := { plain "java/lang/Cloneable" (some 0) with
  accessFlags := 1537
  interfaces := #[]
  cf := some (fileOf pool10 2 #[] #[] 1537 4 #[] #[])
  fields := #[]
  methods := #[]
  instanceTypes := #[]
  staticTypes := #[]
  resolved := Array.replicate 8 none
  statics := none }

/-- the primitive byte -/
def k11 : Class := { plain "byte" none with kind := .primitive 'B', accessFlags := 0x411 }
/-- [B -/
def k12 : Class := { plain "[B" (some 0) with kind := .array 11 .byte, interfaces := #[10, 4], accessFlags := 1041 }

/-- the primitive int -/
def k13 : Class := { plain "int" none with kind := .primitive 'I', accessFlags := 0x411 }
/-- [I -/
def k14 : Class := { plain "[I" (some 0) with kind := .array 13 .int, interfaces := #[10, 4], accessFlags := 1041 }

def heap : Heap := #[]
def classes : Array Class := #[k0, k1, k2, k3, k4, k5, k6, k7, k8, k9, k10, k11, k12, k13, k14]
def interned : List (Array UInt16 × Addr) := []
def slotsUsed : Nat := 0
def theMethod : MethodId := ⟨1, 1⟩
def args0 : Array Value := #[.int 5, .int 5, .int 5, .int 5]
def aboutOver (below : List Frame) : State where
  vm := { classes := classes, interned := interned.toArray }
  heap := heap
  slotsUsed := slotsUsed
  threads := #[{ frames := .invoking theMethod args0 :: below }]
def below0 : List Frame := [.native { method := ⟨0, 0⟩, args := #[] }]
def about1 : State := aboutOver below0
def p0 : Program := .bare "" "" ""
def e0 : Env := launch0.env 0 0 0
theorem w_frames : about1.frames = Frame.invoking theMethod args0 :: below0 := rfl
set_option maxRecDepth 65536 in
theorem w_args : argsFit about1.vm theMethod args0 = true := by decide +kernel
set_option maxRecDepth 65536 in
theorem w_heap : heapFits about1 = true := by decide +kernel
set_option maxRecDepth 65536 in
theorem w_runnable : about1.curStatus? = some .runnable := by decide +kernel
set_option maxRecDepth 65536 in
theorem w_alone : about1.alone = true := by decide +kernel
set_option maxRecDepth 65536 in
theorem w_named : about1.methodNamed? x = some theMethod := by decide +kernel
set_option maxRecDepth 65536 in
theorem w_hears : about1.hears theMethod below0 = true := by decide +kernel
set_option maxRecDepth 65536 in
theorem w_ripe : about1.ripe theMethod args0 below0 = true := by decide +kernel
theorem w_running : about1.status = .running := rfl
set_option maxRecDepth 65536 in
theorem w_room : about1.hasRoom e0.platform room_1 = true :=
  launch0.hasRoom_least _ room_1 (by decide +kernel) (by decide +kernel) (by decide +kernel) (by decide +kernel) (by decide +kernel) (by decide +kernel)
theorem allAtoms_all (ts : List Jvm.Cond) (a : Array Jvm.Value) (st : Jvm.State) : (allAtoms ts).before a st = ts.all (fun c => c.before a st) := by
  induction ts with
  | nil => rfl
  | cons c t ih =>
    show (Jvm.Cond.and c (allAtoms t)).before a st = _
    rw [Jvm.Cond.before_and, ih, List.all_cons]
def words1 : List Jvm.Cond := Jvm.Cond.code x code maxLocals ret :: tables_1
/-- a 'code' word, met by the world's own term for the bytes: nothing is compared byte by byte -/
theorem code_word {y : MethodName} {bytes : ByteArray} {mx : Nat} {rt : Option FieldType} {a : Array Value} {s : State} {m : MethodId} {meth : Method} {c : Code} (h1 : s.methodNamed? y = some m) (h2 : s.vm.method? m = some meth) (h3 : meth.code = some c) (h4 : c.code = bytes)
    (h5 : (c.maxLocals == mx && c.exceptionTable.isEmpty && decide (c.maxStack ≤ mostOperands) && decide (meth.sig.returnType = rt) && !meth.locks && decide (parseMethodDescriptor y.desc = some meth.sig)) = true) : (Jvm.Cond.code y bytes mx rt).before a s = true := by
  simp only [Bool.and_eq_true, beq_iff_eq, Bool.not_eq_true', decide_eq_true_eq] at h5
  obtain ⟨⟨⟨⟨⟨g1, g2⟩, g3⟩, g4⟩, g5⟩, g6⟩ := h5
  simp [Cond.before, Cond.holds, Cond.value, h1, h2, h3, h4, g1, g2, g3, g4, g5, g6]
def isCode : Jvm.Cond → Bool
  | .code _ _ _ _ => true
  | _ => false
theorem all_split {L : List Jvm.Cond} {P : Jvm.Cond → Bool} (h1 : L.all (fun c => isCode c || P c) = true) (h2 : ∀ c ∈ L.filter isCode, P c = true) : L.all P = true := by
  refine List.all_eq_true.mpr fun c hc => ?_
  have h := List.all_eq_true.mp h1 c hc
  rcases Bool.eq_false_or_eq_true (isCode c) with hi | hi
  · exact h2 c (List.mem_filter.mpr ⟨hc, hi⟩)
  · simpa [hi] using h
set_option maxRecDepth 65536 in
theorem w_c0 : (Jvm.Cond.code x code maxLocals ret).before args0 about1 = true := code_word (m := ⟨1, 1⟩) (meth := k1m1) (c := k1c1) (by decide +kernel) rfl rfl rfl (by decide +kernel)
set_option maxRecDepth 65536 in
theorem w_c1 : (Jvm.Cond.code ({ cls := "com/example/headroom/headroom/CapacityPlan$Server", name := "<init>", desc := "(Ljava/lang/String;DD)V" } : Jvm.MethodName) prog_5_method_1_code (6 : Nat) (Option.none : Option Jvm.ClassFile.FieldType)).before args0 about1 = true := code_word (m := ⟨3, 0⟩) (meth := k3m0) (c := k3c0) (by decide +kernel) rfl rfl rfl (by decide +kernel)
set_option maxRecDepth 65536 in
theorem w_c2 : (Jvm.Cond.code ({ cls := "java/lang/Record", name := "<init>", desc := "()V" } : Jvm.MethodName) jdk_30_method_1_code (1 : Nat) (Option.none : Option Jvm.ClassFile.FieldType)).before args0 about1 = true := code_word (m := ⟨2, 0⟩) (meth := k2m0) (c := k2c0) (by decide +kernel) rfl rfl rfl (by decide +kernel)
set_option maxRecDepth 65536 in
theorem w_c3 : (Jvm.Cond.code ({ cls := "java/lang/Object", name := "<init>", desc := "()V" } : Jvm.MethodName) object_method_1_code (1 : Nat) (Option.none : Option Jvm.ClassFile.FieldType)).before args0 about1 = true := code_word (m := ⟨0, 0⟩) (meth := k0m0) (c := k0c0) (by decide +kernel) rfl rfl rfl (by decide +kernel)
set_option maxRecDepth 65536 in
theorem w_c4 : (Jvm.Cond.code ({ cls := "com/example/headroom/headroom/CapacityPlan$Server", name := "response", desc := "(DD)D" } : Jvm.MethodName) prog_5_method_5_code (11 : Nat) (Option.some Jvm.ClassFile.FieldType.double)).before args0 about1 = true := code_word (m := ⟨3, 4⟩) (meth := k3m4) (c := k3c4) (by decide +kernel) rfl rfl rfl (by decide +kernel)
set_option maxRecDepth 65536 in
theorem w_c5 : (Jvm.Cond.code ({ cls := "com/example/headroom/headroom/CapacityPlan$Server", name := "load", desc := "(D)D" } : Jvm.MethodName) prog_5_method_4_code (3 : Nat) (Option.some Jvm.ClassFile.FieldType.double)).before args0 about1 = true := code_word (m := ⟨3, 3⟩) (meth := k3m3) (c := k3c3) (by decide +kernel) rfl rfl rfl (by decide +kernel)
set_option maxRecDepth 65536 in
theorem w_c6 : (Jvm.Cond.code ({ cls := "com/example/headroom/headroom/CapacityPlan$Server", name := "saturation", desc := "()D" } : Jvm.MethodName) prog_5_method_2_code (1 : Nat) (Option.some Jvm.ClassFile.FieldType.double)).before args0 about1 = true := code_word (m := ⟨3, 1⟩) (meth := k3m1) (c := k3c1) (by decide +kernel) rfl rfl rfl (by decide +kernel)
set_option maxRecDepth 65536 in
theorem w_c7 : (Jvm.Cond.code ({ cls := "com/example/headroom/headroom/CapacityPlan$Server", name := "execution", desc := "()D" } : Jvm.MethodName) prog_5_method_3_code (1 : Nat) (Option.some Jvm.ClassFile.FieldType.double)).before args0 about1 = true := code_word (m := ⟨3, 2⟩) (meth := k3m2) (c := k3c2) (by decide +kernel) rfl rfl rfl (by decide +kernel)
def codes1 : List Jvm.Cond := [Jvm.Cond.code x code maxLocals ret, Jvm.Cond.code ({ cls := "com/example/headroom/headroom/CapacityPlan$Server", name := "<init>", desc := "(Ljava/lang/String;DD)V" } : Jvm.MethodName) prog_5_method_1_code (6 : Nat) (Option.none : Option Jvm.ClassFile.FieldType), Jvm.Cond.code ({ cls := "java/lang/Record", name := "<init>", desc := "()V" } : Jvm.MethodName) jdk_30_method_1_code (1 : Nat) (Option.none : Option Jvm.ClassFile.FieldType), Jvm.Cond.code ({ cls := "java/lang/Object", name := "<init>", desc := "()V" } : Jvm.MethodName) object_method_1_code (1 : Nat) (Option.none : Option Jvm.ClassFile.FieldType), Jvm.Cond.code ({ cls := "com/example/headroom/headroom/CapacityPlan$Server", name := "response", desc := "(DD)D" } : Jvm.MethodName) prog_5_method_5_code (11 : Nat) (Option.some Jvm.ClassFile.FieldType.double), Jvm.Cond.code ({ cls := "com/example/headroom/headroom/CapacityPlan$Server", name := "load", desc := "(D)D" } : Jvm.MethodName) prog_5_method_4_code (3 : Nat) (Option.some Jvm.ClassFile.FieldType.double), Jvm.Cond.code ({ cls := "com/example/headroom/headroom/CapacityPlan$Server", name := "saturation", desc := "()D" } : Jvm.MethodName) prog_5_method_2_code (1 : Nat) (Option.some Jvm.ClassFile.FieldType.double), Jvm.Cond.code ({ cls := "com/example/headroom/headroom/CapacityPlan$Server", name := "execution", desc := "()D" } : Jvm.MethodName) prog_5_method_3_code (1 : Nat) (Option.some Jvm.ClassFile.FieldType.double)]
set_option maxRecDepth 65536 in
theorem codes_eq : words1.filter isCode = codes1 := rfl
theorem w_codes : ∀ c ∈ words1.filter isCode, c.before args0 about1 = true := by
  rw [codes_eq]
  intro c hc
  simp only [codes1, List.mem_cons, List.not_mem_nil, or_false] at hc
  rcases hc with rfl | rfl | rfl | rfl | rfl | rfl | rfl | rfl
  · exact w_c0
  · exact w_c1
  · exact w_c2
  · exact w_c3
  · exact w_c4
  · exact w_c5
  · exact w_c6
  · exact w_c7
set_option maxRecDepth 65536 in
theorem w_t1 : (words1.take 24).all (fun c => isCode c || c.before args0 about1) = true := by decide +kernel
set_option maxRecDepth 65536 in
theorem w_t2 : ((words1.drop 24).take 24).all (fun c => isCode c || c.before args0 about1) = true := by decide +kernel
set_option maxRecDepth 65536 in
theorem w_t3 : ((words1.drop 24).drop 24).all (fun c => isCode c || c.before args0 about1) = true := by decide +kernel
theorem w_tables : (allAtoms (Jvm.Cond.code x code maxLocals ret :: tables_1)).before args0 about1 = true := by
  rw [allAtoms_all]
  show words1.all (fun c => c.before args0 about1) = true
  refine all_split ?_ w_codes
  rw [← List.take_append_drop 24 words1, List.all_append, w_t1, ← List.take_append_drop 24 (words1.drop 24), List.all_append, w_t2, w_t3]
  rfl
set_option maxRecDepth 65536 in
theorem w_case : (Jvm.Cond.and given_1 narrow_1).before args0 about1 = true := by decide +kernel
theorem w_applies : (headSpec (Jvm.Cond.code x code maxLocals ret :: tables_1) room_1).applies x e0.platform about1 = true :=
  (Spec.applies_iff w_frames).mpr ⟨w_running, w_runnable, w_alone, w_named, w_hears, w_ripe, w_room, w_tables⟩
theorem atStart : AtStart classFile x code maxLocals ret World_1 tables_1 room_1 Calls_1 rest_1 Pre_1 launch0 p0 e0 about1 theMethod args0 below0 :=
  ⟨lists_1, trivial, launch0.admits_env _ _ _, launch0.least_env, fairChoices_fair.cas, fairChoices_fair.clock, w_frames, w_args, w_heap, w_applies, trivial, trivial, w_case⟩
end start1
theorem witness_1 : WitnessClaimed_1 := ⟨start1.p0, start1.e0, start1.about1, start1.theMethod, start1.args0, start1.below0, start1.atStart⟩
end Jvm.Pilot.@@N@@
