import JvmDerived
import JvmDerived.Pilot.@@N@@Statement
import JvmDerived.Pilot.@@N@@Code
set_option linter.unusedVariables false
set_option linter.unusedSimpArgs false
namespace Jvm.OwnFl
open Jvm.FP.Core
/-- the value of a double that is no NaN, counted in units of the least double -/
def own_z (x : UInt64) : Int := zval b64 (val64 x)
/-- how many of those units make 1 -/
def own_pw (n : Nat) : Nat := if h : n = 0 then 1 else 2 * own_pw (n - 1)
termination_by n
decreasing_by omega
theorem own_pw_eq (n : Nat) : own_pw n = 2 ^ n := by
  induction n with
  | zero => rw [own_pw]; rfl
  | succ k ih => rw [own_pw, dif_neg (Nat.succ_ne_zero k), Nat.add_sub_cancel, ih, Nat.pow_succ, Nat.mul_comm]
def own_U : Nat := own_pw 1074
theorem own_U_eq : own_U = 2 ^ 1074 := own_pw_eq 1074
theorem own_U_pos : (0 : Int) < (own_U : Int) := Int.natCast_pos.mpr (own_U_eq ▸ Nat.two_pow_pos 1074)
/-- a whole number of units that is a finite double -/
def own_rep (z : Int) : Prop := ∃ (c : Int) (j : Nat), z = c * ((2 ^ j : Nat) : Int) ∧ c.natAbs < 2 ^ 53 ∧ j ≤ 2045
theorem own_signed (c : Int) : signed (decide (c < 0)) c.natAbs = c := by
  unfold signed
  by_cases h : c < 0
  · simp only [h, decide_true, if_true]; omega
  · simp only [h, decide_false, Bool.false_eq_true, if_false]; omega
theorem own_datum {z : Int} (h : own_rep z) : ∃ s c q, Jvm.FP.Core.fits b64 (.fin s c q) ∧ zval b64 (.fin s c q) = z := by
  obtain ⟨c, j, rfl, hc, hj⟩ := h
  have hm : b64.qmax = 971 := by decide
  have hq := qmin_b64
  obtain ⟨c', q', h1, h2⟩ := round_exact good_b64 (decide (c < 0)) (c := c.natAbs) (q := b64.qmin + (j : Int)) hc (by omega) (by omega)
  refine ⟨_, c', q', h1 ▸ round_fits good_b64 _, ?_⟩
  show signed (decide (c < 0)) (inUnits c' q' b64.qmin) = _
  rw [h2]
  unfold inUnits
  rw [show (b64.qmin + (j : Int) - b64.qmin).toNat = j by omega, signed_mul, own_signed]
theorem own_top {z : Int} (h : own_rep z) : z.natAbs < 2 ^ 2098 := by
  obtain ⟨c, j, rfl, hc, hj⟩ := h
  rw [Int.natAbs_mul, Int.natAbs_natCast]
  have h1 : 2 ^ j ≤ 2 ^ 2045 := Nat.pow_le_pow_right (by decide) hj
  have h2 : c.natAbs * 2 ^ j ≤ c.natAbs * 2 ^ 2045 := Nat.mul_le_mul_left _ h1
  have h3 : c.natAbs * 2 ^ 2045 < 2 ^ 53 * 2 ^ 2045 := Nat.mul_lt_mul_of_pos_right hc (Nat.two_pow_pos _)
  have h4 : (2 : Nat) ^ 53 * 2 ^ 2045 = 2 ^ 2098 := (Nat.pow_add 2 53 2045).symm
  rw [h4] at h3
  exact Nat.lt_of_le_of_lt h2 h3
theorem own_fin_of {x : UInt64} {z : Int} (hn : val64 x ≠ .nan) (hz : own_z x = z) (h : own_rep z) : DFin x := by
  cases hv : val64 x with
  | nan => exact absurd hv hn
  | inf s =>
    exfalso
    have e : own_z x = signed s (b64.tails * 2 ^ (b64.exps - 2)) := by unfold own_z; rw [hv]; rfl
    have l := own_top h
    rw [← hz, e, natAbs_signed] at l
    have t : b64.tails * 2 ^ (b64.exps - 2) = 2 ^ 2098 := by
      rw [tails_b64, show b64.exps - 2 = 2046 by decide]
      exact (Nat.pow_add 2 52 2046).symm
    rw [t] at l
    exact Nat.lt_irrefl _ l
  | fin s c q => exact ⟨s, c, q, hv⟩
theorem own_round_nn (s : Bool) (c : Nat) (q : Int) : round b64 (.fin s c q) ≠ .nan := roundRatio_ne_nan b64 s c 1 q
theorem own_add {x y : UInt64} (hx : DFin x) (hy : DFin y) (h : own_rep (own_z x + own_z y)) : DFin (dadd x y) ∧ own_z (dadd x y) = own_z x + own_z y := by
  obtain ⟨s, c, q, fV, zV⟩ := own_datum h
  have e : own_z (dadd x y) = own_z x + own_z y := by
    show zval b64 (val64 (dadd x y)) = _
    rw [val64_dadd]
    have h1 := sum_le good_b64 hx hy (val64_fits x) (val64_fits y) fV (fun q => Datum.noConfusion q) (Int.le_of_eq zV.symm)
    have h2 := sum_ge good_b64 hx hy (val64_fits x) (val64_fits y) fV (fun q => Datum.noConfusion q) (Int.le_of_eq zV)
    rw [zV] at h1 h2
    exact Int.le_antisymm h1 h2
  refine ⟨own_fin_of ?_ e h, e⟩
  rw [val64_dadd]
  obtain ⟨s1, c1, q1, e1⟩ := hx
  obtain ⟨s2, c2, q2, e2⟩ := hy
  rw [e1, e2]
  exact own_round_nn _ _ _
theorem own_neg {x : UInt64} (hx : DFin x) : DFin (dneg x) ∧ own_z (dneg x) = - own_z x := by
  obtain ⟨s, c, q, e⟩ := hx
  constructor
  · exact ⟨!s, c, q, by rw [val64_dneg, e]; rfl⟩
  · show zval b64 (val64 (dneg x)) = _
    rw [val64_dneg, zval_negate]; rfl
theorem own_sub {x y : UInt64} (hx : DFin x) (hy : DFin y) (h : own_rep (own_z x - own_z y)) : DFin (dsub x y) ∧ own_z (dsub x y) = own_z x - own_z y := by
  obtain ⟨n1, n2⟩ := own_neg hy
  have e : own_z x + own_z (dneg y) = own_z x - own_z y := by rw [n2]; omega
  have k := own_add hx n1 (e ▸ h)
  rw [dsub_eq]
  exact ⟨k.1, k.2.trans e⟩
theorem own_signed_mul2 (s t : Bool) (a b : Nat) : signed (s != t) (a * b) = signed s a * signed t b := by
  cases s <;> cases t <;> simp [signed, Int.natCast_mul, Int.neg_mul, Int.mul_neg]
theorem own_mul {x y : UInt64} {z : Int} (hx : DFin x) (hy : DFin y) (h : own_rep z) (e : own_z x * own_z y = z * (own_U : Int)) : DFin (dmul x y) ∧ own_z (dmul x y) = z := by
  obtain ⟨s, c, q, e1⟩ := hx
  obtain ⟨t, d, r, e2⟩ := hy
  obtain ⟨s', c', q', fV, zV⟩ := own_datum h
  have f1 : Jvm.FP.Core.fits b64 (.fin s c q) := e1 ▸ val64_fits x
  have f2 : Jvm.FP.Core.fits b64 (.fin t d r) := e2 ▸ val64_fits y
  obtain ⟨p1, p2, p3⟩ := product_units f1 f2
  have u1 : own_z x = signed s (zmag b64 (.fin s c q)) := by unfold own_z; rw [e1]; rfl
  have u2 : own_z y = signed t (zmag b64 (.fin t d r)) := by unfold own_z; rw [e2]; rfl
  have hs : signed (s != t) (inUnits (c * d) (q + r) (2 * b64.qmin)) = zval b64 (.fin s' c' q') * ((2 ^ (b64.qmin - 2 * b64.qmin).toNat : Nat) : Int) := by
    rw [p3, own_signed_mul2, ← u1, ← u2, e, zV, show (b64.qmin - 2 * b64.qmin).toNat = 1074 by rw [qmin_b64]; rfl, own_U_eq]
  have hq := qmin_b64
  have k : own_z (dmul x y) = z := by
    show zval b64 (val64 (dmul x y)) = _
    rw [val64_dmul, e1, e2, p1]
    have h1 := zval_round_le good_b64 (s := (s != t)) (c := c * d) (q := q + r) (e0 := 2 * b64.qmin) fV (fun q => Datum.noConfusion q) (by omega) p2 (Int.le_of_eq hs)
    have h2 := zval_round_ge good_b64 (s := (s != t)) (c := c * d) (q := q + r) (e0 := 2 * b64.qmin) fV (fun q => Datum.noConfusion q) (by omega) p2 (Int.le_of_eq hs.symm)
    rw [zV] at h1 h2
    exact Int.le_antisymm h1 h2
  refine ⟨own_fin_of ?_ k h, k⟩
  rw [val64_dmul, e1, e2, p1]
  exact own_round_nn _ _ _
theorem own_nonneg {s : Bool} {m : Nat} (h : 0 ≤ signed s m) : signed s m = (m : Int) := by
  cases s
  · rfl
  · simp only [signed, if_true] at h ⊢; omega
theorem own_pos_sign {s : Bool} {m : Nat} (h : 0 < signed s m) : s = false := by
  cases s
  · rfl
  · simp only [signed, if_true] at h; omega
/-- the quotient of two finite doubles, the divisor not nought -/
theorem own_quot {x y : UInt64} {s t : Bool} {c d : Nat} {q r : Int} (e1 : val64 x = .fin s c q) (e2 : val64 y = .fin t d r) (hd : d ≠ 0) : val64 (ddiv x y) = roundRatio b64 (s != t) c d (q - r) := by
  rw [val64_ddiv, e1, e2]
  unfold quotient
  exact if_neg hd
theorem own_zmag_ne {t : Bool} {d : Nat} {r : Int} (h : signed t (zmag b64 (.fin t d r)) ≠ 0) : d ≠ 0 := by
  intro e
  apply h
  subst e
  show signed t (inUnits 0 r b64.qmin) = 0
  unfold inUnits
  rw [Nat.zero_mul]
  exact signed_zero t
theorem own_pow_shift {A B u v u' v' : Nat} (h : A * 2 ^ u = B * 2 ^ v) (he : u + v' = u' + v) : A * 2 ^ u' = B * 2 ^ v' := by
  refine Nat.eq_of_mul_eq_mul_right (Nat.two_pow_pos v) ?_
  calc A * 2 ^ u' * 2 ^ v = A * 2 ^ (u' + v) := by rw [Nat.mul_assoc, ← Nat.pow_add]
    _ = A * 2 ^ (u + v') := by rw [he]
    _ = A * 2 ^ u * 2 ^ v' := by rw [Nat.mul_assoc, ← Nat.pow_add]
    _ = B * 2 ^ v * 2 ^ v' := by rw [h]
    _ = B * 2 ^ v' * 2 ^ v := by ac_rfl
theorem own_zv {x : UInt64} {s : Bool} {c : Nat} {q : Int} (e : val64 x = .fin s c q) : own_z x = signed s (c * 2 ^ (q - b64.qmin).toNat) := by
  unfold own_z; rw [e]; rfl
theorem own_c0 {s : Bool} {c k : Nat} (h : signed s (c * 2 ^ k) = 0) : c = 0 := by
  rw [signed_eq_zero] at h
  rcases Nat.mul_eq_zero.mp h with h | h
  · exact h
  · have := Nat.two_pow_pos k; omega
theorem own_rr0 (s : Bool) (B : Nat) (e : Int) : zval b64 (roundRatio b64 s 0 B e) = 0 := by
  unfold roundRatio
  rw [if_pos rfl]
  show signed s (inUnits 0 b64.qmin b64.qmin) = 0
  unfold inUnits
  rw [Nat.zero_mul]
  exact signed_zero s
/-- two quotients of one value, none negative -/
theorem own_div_congr {x y x' y' : UInt64} (hx : DFin x) (hy : DFin y) (hx' : DFin x') (hy' : DFin y') (px : 0 ≤ own_z x) (py : 0 < own_z y) (px' : 0 ≤ own_z x') (py' : 0 < own_z y')
    (h : own_z x * own_z y' = own_z x' * own_z y) : own_z (ddiv x y) = own_z (ddiv x' y') := by
  obtain ⟨s, c, q, e1⟩ := hx
  obtain ⟨t, d, r, e2⟩ := hy
  obtain ⟨s', c', q', e1'⟩ := hx'
  obtain ⟨t', d', r', e2'⟩ := hy'
  have f1 : b64.qmin ≤ q := (e1 ▸ val64_fits x : Jvm.FP.Core.fits b64 (.fin s c q)).2.1
  have f2 : b64.qmin ≤ r := (e2 ▸ val64_fits y : Jvm.FP.Core.fits b64 (.fin t d r)).2.1
  have f1' : b64.qmin ≤ q' := (e1' ▸ val64_fits x' : Jvm.FP.Core.fits b64 (.fin s' c' q')).2.1
  have f2' : b64.qmin ≤ r' := (e2' ▸ val64_fits y' : Jvm.FP.Core.fits b64 (.fin t' d' r')).2.1
  rw [own_zv e2] at py h
  rw [own_zv e2'] at py' h
  rw [own_zv e1] at px h
  rw [own_zv e1'] at px' h
  have ht := own_pos_sign py
  have ht' := own_pos_sign py'
  have d0 : d ≠ 0 := fun z => by rw [z, Nat.zero_mul, signed_zero] at py; exact Int.lt_irrefl _ py
  have d0' : d' ≠ 0 := fun z => by rw [z, Nat.zero_mul, signed_zero] at py'; exact Int.lt_irrefl _ py'
  show zval b64 (val64 (ddiv x y)) = zval b64 (val64 (ddiv x' y'))
  rw [own_quot e1 e2 d0, own_quot e1' e2' d0']
  rw [own_nonneg px, own_nonneg px', own_nonneg (Int.le_of_lt py), own_nonneg (Int.le_of_lt py'), ← Int.natCast_mul, ← Int.natCast_mul] at h
  have hN : c * 2 ^ (q - b64.qmin).toNat * (d' * 2 ^ (r' - b64.qmin).toNat) = c' * 2 ^ (q' - b64.qmin).toNat * (d * 2 ^ (r - b64.qmin).toNat) := Int.natCast_inj.mp h
  have hP : c * d' * 2 ^ ((q - b64.qmin).toNat + (r' - b64.qmin).toNat) = c' * d * 2 ^ ((q' - b64.qmin).toNat + (r - b64.qmin).toNat) := by
    rw [Nat.pow_add, Nat.pow_add]
    calc c * d' * (2 ^ (q - b64.qmin).toNat * 2 ^ (r' - b64.qmin).toNat) = c * 2 ^ (q - b64.qmin).toNat * (d' * 2 ^ (r' - b64.qmin).toNat) := by ac_rfl
      _ = c' * 2 ^ (q' - b64.qmin).toNat * (d * 2 ^ (r - b64.qmin).toNat) := hN
      _ = c' * d * (2 ^ (q' - b64.qmin).toNat * 2 ^ (r - b64.qmin).toNat) := by ac_rfl
  have hC : c * d' * 2 ^ ((q - r) - (q' - r')).toNat = c' * d * 2 ^ ((q' - r') - (q - r)).toNat := own_pow_shift hP (by omega)
  by_cases hz : c = 0
  · have hz' : c' = 0 := by
      rw [hz, Nat.zero_mul, Nat.zero_mul] at hC
      rcases Nat.mul_eq_zero.mp hC.symm with k | k
      · rcases Nat.mul_eq_zero.mp k with k | k
        · exact k
        · exact absurd k d0
      · have := Nat.two_pow_pos ((q' - r') - (q - r)).toNat; omega
    rw [hz, hz', own_rr0, own_rr0]
  · have hz' : c' ≠ 0 := by
      intro k
      rw [k, Nat.zero_mul, Nat.zero_mul] at hC
      rcases Nat.mul_eq_zero.mp hC with k | k
      · rcases Nat.mul_eq_zero.mp k with k | k
        · exact hz k
        · exact d0' k
      · have := Nat.two_pow_pos ((q - r) - (q' - r')).toNat; omega
    have sx : s = false := by
      cases s
      · rfl
      · exfalso
        have := Nat.mul_pos (Nat.pos_of_ne_zero hz) (Nat.two_pow_pos (q - b64.qmin).toNat)
        simp only [signed, if_true] at px
        omega
    have sx' : s' = false := by
      cases s'
      · rfl
      · exfalso
        have := Nat.mul_pos (Nat.pos_of_ne_zero hz') (Nat.two_pow_pos (q' - b64.qmin).toNat)
        simp only [signed, if_true] at px'
        omega
    rw [ht, ht', sx, sx', roundRatio_congr (Nat.pos_of_ne_zero d0) (Nat.pos_of_ne_zero d0') hC]
/-- an exact quotient, nothing negative -/
theorem own_div {x y : UInt64} {z : Int} (hx : DFin x) (hy : DFin y) (px : 0 ≤ own_z x) (py : 0 < own_z y) (h : own_rep z) (e : own_z x * (own_U : Int) = z * own_z y) : DFin (ddiv x y) ∧ own_z (ddiv x y) = z := by
  obtain ⟨s, c, q, e1⟩ := hx
  obtain ⟨t, d, r, e2⟩ := hy
  obtain ⟨sv, cv, qv, fV, zV⟩ := own_datum h
  have f1 := (e1 ▸ val64_fits x : Jvm.FP.Core.fits b64 (.fin s c q))
  have f2 := (e2 ▸ val64_fits y : Jvm.FP.Core.fits b64 (.fin t d r))
  have pz : 0 ≤ z := by
    refine Int.not_lt.mp fun k => ?_
    have h1 : z * own_z y < 0 := Int.mul_neg_of_neg_of_pos k py
    have h2 : 0 ≤ own_z x * (own_U : Int) := Int.mul_nonneg px (Int.le_of_lt own_U_pos)
    omega
  have hq := qmin_b64
  have hm : b64.qmax = 971 := by decide
  have q1 := f1.2.1
  have q2 := f1.2.2.1
  have q3 := f2.2.1
  have q4 := f2.2.2.1
  have zM : (zmag b64 (.fin sv cv qv) : Int) = z := by
    have k : 0 ≤ signed sv (zmag b64 (.fin sv cv qv)) := by rw [show signed sv (zmag b64 (.fin sv cv qv)) = z from zV]; exact pz
    rw [← own_nonneg k]; exact zV
  rw [own_zv e1] at px e
  rw [own_zv e2] at py e
  have ht := own_pos_sign py
  have d0 : d ≠ 0 := fun k => by rw [k, Nat.zero_mul, signed_zero] at py; exact Int.lt_irrefl _ py
  rw [own_nonneg px, own_nonneg (Int.le_of_lt py), ← zM, ← Int.natCast_mul, ← Int.natCast_mul] at e
  have hN : c * 2 ^ (q - b64.qmin).toNat * own_U = zmag b64 (.fin sv cv qv) * (d * 2 ^ (r - b64.qmin).toNat) := Int.natCast_inj.mp e
  generalize hmv : zmag b64 (.fin sv cv qv) = mv at hN zM
  have hP : c * 2 ^ ((q - b64.qmin).toNat + 1074) = mv * d * 2 ^ (r - b64.qmin).toNat := by
    rw [Nat.pow_add, ← Nat.mul_assoc, ← own_U_eq, hN, Nat.mul_assoc]
  have hC : c * 2 ^ (q - r - (-4000)).toNat = mv * d * 2 ^ (b64.qmin - (-4000)).toNat := own_pow_shift hP (by omega)
  have hE : inUnits c (q - r) (-4000) = zmag b64 (.fin sv cv qv) * 2 ^ (b64.qmin - (-4000)).toNat * d := by
    unfold inUnits
    rw [hC, hmv]; exact Nat.mul_right_comm _ _ _
  have l1 := zmag_roundRatio_le good_b64 (s := (s != t)) (A := c) (B := d) (e := q - r) (e0 := -4000) (V := .fin sv cv qv) (Nat.pos_of_ne_zero d0) fV (fun q => Datum.noConfusion q) (by omega) (by omega) (Nat.le_of_eq hE)
  have l2 := zmag_roundRatio_ge good_b64 (s := (s != t)) (A := c) (B := d) (e := q - r) (e0 := -4000) (V := .fin sv cv qv) (Nat.pos_of_ne_zero d0) fV (by omega) (by omega) (Nat.le_of_eq hE.symm)
  have l3 : zmag b64 (roundRatio b64 (s != t) c d (q - r)) = mv := by rw [← hmv]; exact Nat.le_antisymm l1 l2
  have k : own_z (ddiv x y) = z := by
    show zval b64 (val64 (ddiv x y)) = z
    rw [own_quot e1 e2 d0]
    by_cases hz : c = 0
    · rw [hz, own_rr0]
      rw [hz, Nat.zero_mul] at hP
      have : mv * d * 2 ^ (r - b64.qmin).toNat = 0 := hP.symm
      rcases Nat.mul_eq_zero.mp this with k | k
      · rcases Nat.mul_eq_zero.mp k with k | k
        · rw [← zM, k]; rfl
        · exact absurd k d0
      · have := Nat.two_pow_pos (r - b64.qmin).toNat; omega
    · have sx : s = false := by
        cases s
        · rfl
        · exfalso
          have := Nat.mul_pos (Nat.pos_of_ne_zero hz) (Nat.two_pow_pos (q - b64.qmin).toNat)
          simp only [signed, if_true] at px
          omega
      unfold zval
      rw [sgn_roundRatio, l3, ht, sx, ← zM]
      rfl
  refine ⟨own_fin_of ?_ k h, k⟩
  rw [own_quot e1 e2 d0]
  exact roundRatio_ne_nan _ _ _ _ _
theorem own_pow_shift_le {A B u v u' v' : Nat} (h : A * 2 ^ u ≤ B * 2 ^ v) (he : u + v' = u' + v) : A * 2 ^ u' ≤ B * 2 ^ v' := by
  refine Nat.le_of_mul_le_mul_right ?_ (Nat.two_pow_pos v)
  calc A * 2 ^ u' * 2 ^ v = A * 2 ^ (u' + v) := by rw [Nat.mul_assoc, ← Nat.pow_add]
    _ = A * 2 ^ (u + v') := by rw [he]
    _ = A * 2 ^ u * 2 ^ v' := by rw [Nat.mul_assoc, ← Nat.pow_add]
    _ ≤ B * 2 ^ v * 2 ^ v' := Nat.mul_le_mul_right _ h
    _ = B * 2 ^ v' * 2 ^ v := by ac_rfl
/-- what a quotient that isn't negative is, by its magnitude -/
theorem own_div_mag {x y : UInt64} (hx : DFin x) (hy : DFin y) (px : 0 ≤ own_z x) (py : 0 < own_z y) : ∃ (c d : Nat) (q r : Int), b64.qmin ≤ q ∧ q ≤ b64.qmax ∧ b64.qmin ≤ r ∧ r ≤ b64.qmax ∧ 0 < d ∧
    own_z x = ((c * 2 ^ (q - b64.qmin).toNat : Nat) : Int) ∧ own_z y = ((d * 2 ^ (r - b64.qmin).toNat : Nat) : Int) ∧ val64 (ddiv x y) ≠ .nan ∧ ∃ s, own_z (ddiv x y) = (zmag b64 (roundRatio b64 s c d (q - r)) : Int) := by
  obtain ⟨s, c, q, e1⟩ := hx
  obtain ⟨t, d, r, e2⟩ := hy
  have f1 := (e1 ▸ val64_fits x : Jvm.FP.Core.fits b64 (.fin s c q))
  have f2 := (e2 ▸ val64_fits y : Jvm.FP.Core.fits b64 (.fin t d r))
  rw [own_zv e1] at px
  rw [own_zv e2] at py
  have d0 : d ≠ 0 := fun k => by rw [k, Nat.zero_mul, signed_zero] at py; exact Int.lt_irrefl _ py
  refine ⟨c, d, q, r, f1.2.1, f1.2.2.1, f2.2.1, f2.2.2.1, Nat.pos_of_ne_zero d0, by rw [own_zv e1, own_nonneg px], by rw [own_zv e2, own_nonneg (Int.le_of_lt py)], ?_, (s != t), ?_⟩
  · rw [own_quot e1 e2 d0]; exact roundRatio_ne_nan _ _ _ _ _
  · show zval b64 (val64 (ddiv x y)) = _
    rw [own_quot e1 e2 d0]
    by_cases hz : c = 0
    · have k : zval b64 (roundRatio b64 (s != t) c d (q - r)) = 0 := by rw [hz]; exact own_rr0 _ _ _
      have k2 := k
      unfold zval at k2
      rw [signed_eq_zero] at k2
      rw [k, k2]; rfl
    · have sx : s = false := by
        cases s
        · rfl
        · exfalso
          have := Nat.mul_pos (Nat.pos_of_ne_zero hz) (Nat.two_pow_pos (q - b64.qmin).toNat)
          simp only [signed, if_true] at px
          omega
      unfold zval
      rw [sgn_roundRatio, own_pos_sign py, sx]
      rfl
theorem own_div_nonneg {x y : UInt64} (hx : DFin x) (hy : DFin y) (px : 0 ≤ own_z x) (py : 0 < own_z y) : val64 (ddiv x y) ≠ .nan ∧ 0 ≤ own_z (ddiv x y) := by
  obtain ⟨c, d, q, r, -, -, -, -, -, -, -, h1, s, h2⟩ := own_div_mag hx hy px py
  exact ⟨h1, by rw [h2]; exact Int.natCast_nonneg _⟩
theorem own_mag_val {w : UInt64} (pw : 0 ≤ own_z w) : own_z w = (zmag b64 (val64 w) : Int) := own_nonneg pw
theorem own_div_le {x y w : UInt64} (hx : DFin x) (hy : DFin y) (px : 0 ≤ own_z x) (py : 0 < own_z y) (hw : val64 w ≠ .nan) (pw : 0 ≤ own_z w) (h : own_z x * (own_U : Int) ≤ own_z w * own_z y) : own_z (ddiv x y) ≤ own_z w := by
  obtain ⟨c, d, q, r, q1, q2, q3, q4, d0, zx, zy, -, s, zq⟩ := own_div_mag hx hy px py
  have hq := qmin_b64
  have hm : b64.qmax = 971 := by decide
  rw [zq, own_mag_val pw]
  rw [zx, zy, own_mag_val pw, ← Int.natCast_mul, ← Int.natCast_mul] at h
  have hN : c * 2 ^ (q - b64.qmin).toNat * own_U ≤ zmag b64 (val64 w) * (d * 2 ^ (r - b64.qmin).toNat) := Int.ofNat_le.mp h
  have hP : c * 2 ^ ((q - b64.qmin).toNat + 1074) ≤ zmag b64 (val64 w) * d * 2 ^ (r - b64.qmin).toNat := by
    rw [Nat.pow_add, ← Nat.mul_assoc, Nat.mul_assoc (zmag b64 (val64 w)), ← own_U_eq]
    exact hN
  have hC : c * 2 ^ (q - r - (-4000)).toNat ≤ zmag b64 (val64 w) * d * 2 ^ (b64.qmin - (-4000)).toNat := own_pow_shift_le hP (by omega)
  refine Int.ofNat_le.mpr (zmag_roundRatio_le good_b64 (e0 := -4000) d0 (val64_fits w) hw (by omega) (by omega) ?_)
  unfold inUnits
  exact Nat.le_trans hC (Nat.le_of_eq (Nat.mul_right_comm _ _ _))
theorem own_div_ge {x y w : UInt64} (hx : DFin x) (hy : DFin y) (px : 0 ≤ own_z x) (py : 0 < own_z y) (pw : 0 ≤ own_z w) (h : own_z w * own_z y ≤ own_z x * (own_U : Int)) : own_z w ≤ own_z (ddiv x y) := by
  obtain ⟨c, d, q, r, q1, q2, q3, q4, d0, zx, zy, -, s, zq⟩ := own_div_mag hx hy px py
  have hq := qmin_b64
  have hm : b64.qmax = 971 := by decide
  rw [zq, own_mag_val pw]
  rw [zx, zy, own_mag_val pw, ← Int.natCast_mul, ← Int.natCast_mul] at h
  have hN : zmag b64 (val64 w) * (d * 2 ^ (r - b64.qmin).toNat) ≤ c * 2 ^ (q - b64.qmin).toNat * own_U := Int.ofNat_le.mp h
  have hP : zmag b64 (val64 w) * d * 2 ^ (r - b64.qmin).toNat ≤ c * 2 ^ ((q - b64.qmin).toNat + 1074) := by
    rw [Nat.pow_add, ← Nat.mul_assoc, Nat.mul_assoc (zmag b64 (val64 w)), ← own_U_eq]
    exact hN
  have hC : zmag b64 (val64 w) * d * 2 ^ (b64.qmin - (-4000)).toNat ≤ c * 2 ^ (q - r - (-4000)).toNat := own_pow_shift_le hP (by omega)
  refine Int.ofNat_le.mpr (zmag_roundRatio_ge good_b64 (e0 := -4000) d0 (val64_fits w) (by omega) (by omega) ?_)
  unfold inUnits
  exact Nat.le_trans (Nat.le_of_eq (Nat.mul_right_comm _ _ _)) hC
/-- x is finite and is n / 2^k -/
def own_is (x : UInt64) (n : Int) (k : Nat) : Prop := DFin x ∧ own_z x * ((2 ^ k : Nat) : Int) = n * (own_U : Int)
theorem own_two_pos (k : Nat) : (0 : Int) < ((2 ^ k : Nat) : Int) := Int.natCast_pos.mpr (Nat.two_pow_pos k)
theorem own_U_split {k : Nat} (hk : k ≤ 1074) : (own_U : Int) = ((2 ^ (1074 - k) : Nat) : Int) * ((2 ^ k : Nat) : Int) := by
  rw [← Int.natCast_mul, ← Nat.pow_add, Nat.sub_add_cancel hk, own_U_eq]
theorem own_rep_of {z n : Int} {k : Nat} (h : z * ((2 ^ k : Nat) : Int) = n * (own_U : Int)) (hn : n.natAbs < 2 ^ 53) (hk : k ≤ 1074) : z = n * ((2 ^ (1074 - k) : Nat) : Int) ∧ own_rep z := by
  have e : z = n * ((2 ^ (1074 - k) : Nat) : Int) := by
    rw [own_U_split hk, ← Int.mul_assoc] at h
    exact Int.eq_of_mul_eq_mul_right (Int.ne_of_gt (own_two_pos k)) h
  exact ⟨e, n, 1074 - k, e, hn, by omega⟩
theorem own_is.nn {x : UInt64} {n : Int} {k : Nat} (h : own_is x n k) : Jvm.Free.Fl.NoNaN64 x := Jvm.Free.Fl.noNaN64_no.mpr ((notNaN_iff x).mpr (by obtain ⟨⟨s, c, q, e⟩, -⟩ := h; rw [e]; exact fun q => Datum.noConfusion q))
theorem own_is.fin {x : UInt64} {n : Int} {k : Nat} (h : own_is x n k) : Jvm.Free.Fl.Fin64 x := Jvm.Free.Fl.fin64_core.mpr h.1
theorem own_is.val {x : UInt64} {n : Int} {k : Nat} (h : own_is x n k) : val64 x ≠ .nan := by obtain ⟨⟨s, c, q, e⟩, -⟩ := h; rw [e]; exact fun q => Datum.noConfusion q
theorem own_is.add {x y : UInt64} {n m : Int} {k : Nat} (hx : own_is x n k) (hy : own_is y m k) (hn : (n + m).natAbs < 2 ^ 53) (hk : k ≤ 1074) : own_is (dadd x y) (n + m) k := by
  have e : (own_z x + own_z y) * ((2 ^ k : Nat) : Int) = (n + m) * (own_U : Int) := by rw [Int.add_mul, Int.add_mul, hx.2, hy.2]
  obtain ⟨a, b⟩ := own_add hx.1 hy.1 (own_rep_of e hn hk).2
  exact ⟨a, by rw [b]; exact e⟩
theorem own_is.sub {x y : UInt64} {n m : Int} {k : Nat} (hx : own_is x n k) (hy : own_is y m k) (hn : (n - m).natAbs < 2 ^ 53) (hk : k ≤ 1074) : own_is (dsub x y) (n - m) k := by
  have e : (own_z x - own_z y) * ((2 ^ k : Nat) : Int) = (n - m) * (own_U : Int) := by rw [Int.sub_mul, Int.sub_mul, hx.2, hy.2]
  obtain ⟨a, b⟩ := own_sub hx.1 hy.1 (own_rep_of e hn hk).2
  exact ⟨a, by rw [b]; exact e⟩
theorem own_is.mul {x y : UInt64} {n m : Int} {k j : Nat} (hx : own_is x n k) (hy : own_is y m j) (hn : (n * m).natAbs < 2 ^ 53) (hk : k + j ≤ 1074) : own_is (dmul x y) (n * m) (k + j) := by
  have hp : ((2 ^ (k + j) : Nat) : Int) = ((2 ^ k : Nat) : Int) * ((2 ^ j : Nat) : Int) := by rw [Nat.pow_add, Int.natCast_mul]
  have e0 : n * m * ((2 ^ (1074 - (k + j)) : Nat) : Int) * ((2 ^ (k + j) : Nat) : Int) = n * m * (own_U : Int) := by rw [own_U_split hk, Int.mul_assoc]
  have e : own_z x * own_z y = n * m * ((2 ^ (1074 - (k + j)) : Nat) : Int) * (own_U : Int) := by
    refine Int.eq_of_mul_eq_mul_right (Int.ne_of_gt (own_two_pos (k + j))) ?_
    calc own_z x * own_z y * ((2 ^ (k + j) : Nat) : Int) = (own_z x * ((2 ^ k : Nat) : Int)) * (own_z y * ((2 ^ j : Nat) : Int)) := by rw [hp]; ac_rfl
      _ = (n * (own_U : Int)) * (m * (own_U : Int)) := by rw [hx.2, hy.2]
      _ = n * m * (own_U : Int) * (own_U : Int) := by ac_rfl
      _ = n * m * ((2 ^ (1074 - (k + j)) : Nat) : Int) * ((2 ^ (k + j) : Nat) : Int) * (own_U : Int) := by rw [e0]
      _ = n * m * ((2 ^ (1074 - (k + j)) : Nat) : Int) * (own_U : Int) * ((2 ^ (k + j) : Nat) : Int) := by ac_rfl
  obtain ⟨a, b⟩ := own_mul hx.1 hy.1 (own_rep_of e0 hn hk).2 e
  exact ⟨a, by rw [b]; exact e0⟩
theorem own_is.div {x y : UInt64} {n m q : Int} {k j i : Nat} (hx : own_is x n k) (hy : own_is y m j) (pn : 0 ≤ n) (pm : 0 < m) (hq : q.natAbs < 2 ^ 53) (hi : i ≤ 1074)
    (h : n * ((2 ^ j : Nat) : Int) * ((2 ^ i : Nat) : Int) = q * m * ((2 ^ k : Nat) : Int)) : own_is (ddiv x y) q i := by
  have e0 : q * ((2 ^ (1074 - i) : Nat) : Int) * ((2 ^ i : Nat) : Int) = q * (own_U : Int) := by rw [own_U_split hi, Int.mul_assoc]
  have px : 0 ≤ own_z x := by
    refine Int.not_lt.mp fun z => ?_
    have h1 := Int.mul_neg_of_neg_of_pos z (own_two_pos k)
    have h2 := Int.mul_nonneg pn (Int.le_of_lt own_U_pos)
    rw [hx.2] at h1; omega
  have py : 0 < own_z y := by
    refine Int.not_le.mp fun z => ?_
    have h1 : own_z y * ((2 ^ j : Nat) : Int) ≤ 0 := Int.mul_nonpos_of_nonpos_of_nonneg z (Int.le_of_lt (own_two_pos j))
    have h2 := Int.mul_pos pm own_U_pos
    rw [hy.2] at h1; omega
  have e : own_z x * (own_U : Int) = q * ((2 ^ (1074 - i) : Nat) : Int) * own_z y := by
    refine Int.eq_of_mul_eq_mul_right (Int.ne_of_gt (Int.mul_pos (Int.mul_pos (own_two_pos k) (own_two_pos j)) (own_two_pos i))) ?_
    calc own_z x * (own_U : Int) * (((2 ^ k : Nat) : Int) * ((2 ^ j : Nat) : Int) * ((2 ^ i : Nat) : Int)) = (own_z x * ((2 ^ k : Nat) : Int)) * (own_U : Int) * ((2 ^ j : Nat) : Int) * ((2 ^ i : Nat) : Int) := by ac_rfl
      _ = (n * ((2 ^ j : Nat) : Int) * ((2 ^ i : Nat) : Int)) * (own_U : Int) * (own_U : Int) := by rw [hx.2]; ac_rfl
      _ = (q * (own_U : Int)) * (m * (own_U : Int)) * ((2 ^ k : Nat) : Int) := by rw [h]; ac_rfl
      _ = (q * ((2 ^ (1074 - i) : Nat) : Int) * ((2 ^ i : Nat) : Int)) * (own_z y * ((2 ^ j : Nat) : Int)) * ((2 ^ k : Nat) : Int) := by rw [e0, hy.2]
      _ = q * ((2 ^ (1074 - i) : Nat) : Int) * own_z y * (((2 ^ k : Nat) : Int) * ((2 ^ j : Nat) : Int) * ((2 ^ i : Nat) : Int)) := by ac_rfl
  obtain ⟨a, b⟩ := own_div hx.1 hy.1 px py (own_rep_of e0 hq hi).2 e
  exact ⟨a, by rw [b]; exact e0⟩
theorem own_is.scale {x : UInt64} {n : Int} {k : Nat} (h : own_is x n k) (i : Nat) : own_is x (n * ((2 ^ i : Nat) : Int)) (k + i) := by
  refine ⟨h.1, ?_⟩
  rw [Nat.pow_add, Int.natCast_mul, ← Int.mul_assoc, h.2]; ac_rfl
theorem own_is.l2d {a : Int64} (h : a.toInt.natAbs < 2 ^ 53) : own_is (l2d a) a.toInt 0 := by
  refine ⟨l2d_fin a, ?_⟩
  have hs : Small53 a := by unfold Small53; omega
  have e := whole_zval good_b64 (val64_fits (Jvm.FP.Core.l2d a)) (l2d_whole hs)
  rw [show (-b64.qmin).toNat = 1074 by rw [qmin_b64]; rfl] at e
  show zval b64 (val64 (Jvm.FP.Core.l2d a)) * _ = _
  rw [e, Nat.pow_zero]
  show _ * (1 : Int) = _
  rw [Int.mul_one, own_U_eq]
theorem own_is.i2d (a : Int32) : own_is (i2d a) a.toInt 0 := by
  rw [i2d_l2d]
  have h := own_is.l2d (a := a.toInt64) (by rw [Int32.toInt_toInt64]; have := a.le_toInt; have := a.toInt_lt; omega)
  rw [Int32.toInt_toInt64] at h
  exact h
theorem own_is.lt_iff {x y : UInt64} {n m : Int} {k : Nat} (hx : own_is x n k) (hy : own_is y m k) : own_z x < own_z y ↔ n < m := by
  have h1 : own_z x * ((2 ^ k : Nat) : Int) < own_z y * ((2 ^ k : Nat) : Int) ↔ own_z x < own_z y := Int.mul_lt_mul_right (own_two_pos k)
  rw [← h1, hx.2, hy.2]
  exact Int.mul_lt_mul_right own_U_pos
theorem own_is.eq_iff {x y : UInt64} {n m : Int} {k : Nat} (hx : own_is x n k) (hy : own_is y m k) : own_z x = own_z y ↔ n = m := by
  have h1 := hx.lt_iff hy
  have h2 := hy.lt_iff hx
  omega
theorem own_cmp_eq {x y : UInt64} (h1 : val64 x ≠ .nan) (h2 : val64 y ≠ .nan) (h : own_z x = own_z y) (o : ClassFile.CmpOp) : Jvm.Op.cmpValue (FP.dcmp x y) o = 0 := by
  rw [show FP.dcmp x y = some .eq from dcmp_eq.mpr ⟨h1, h2, h⟩]; rfl
theorem own_cmp_lt {x y : UInt64} (h1 : val64 x ≠ .nan) (h2 : val64 y ≠ .nan) (h : own_z x < own_z y) (o : ClassFile.CmpOp) : Jvm.Op.cmpValue (FP.dcmp x y) o = -1 := by
  rw [show FP.dcmp x y = some .lt from dcmp_lt.mpr ⟨h1, h2, h⟩]; rfl
theorem own_cmp_gt {x y : UInt64} (h1 : val64 x ≠ .nan) (h2 : val64 y ≠ .nan) (h : own_z y < own_z x) (o : ClassFile.CmpOp) : Jvm.Op.cmpValue (FP.dcmp x y) o = 1 := by
  rw [show FP.dcmp x y = some .gt from dcmp_gt.mpr ⟨h1, h2, h⟩]; rfl
theorem own_cmp_ge {x y : UInt64} (h1 : val64 x ≠ .nan) (h2 : val64 y ≠ .nan) (h : own_z y ≤ own_z x) (o : ClassFile.CmpOp) : ¬ Jvm.Op.cmpValue (FP.dcmp x y) o < 0 := by
  by_cases e : own_z x = own_z y
  · rw [own_cmp_eq h1 h2 e]; decide
  · rw [own_cmp_gt h1 h2 (by omega)]; decide
theorem own_cmp_le {x y : UInt64} (h1 : val64 x ≠ .nan) (h2 : val64 y ≠ .nan) (h : own_z x ≤ own_z y) (o : ClassFile.CmpOp) : ¬ 0 < Jvm.Op.cmpValue (FP.dcmp x y) o := by
  by_cases e : own_z x = own_z y
  · rw [own_cmp_eq h1 h2 e]; decide
  · rw [own_cmp_lt h1 h2 (by omega)]; decide
theorem own_nn_of {x : UInt64} (h : val64 x ≠ .nan) : Jvm.Free.Fl.NoNaN64 x := Jvm.Free.Fl.noNaN64_no.mpr ((notNaN_iff x).mpr h)
theorem own_is.nonneg {x : UInt64} {n : Int} {k : Nat} (hx : own_is x n k) (pn : 0 ≤ n) : 0 ≤ own_z x := by
  refine Int.not_lt.mp fun z => ?_
  have h1 := Int.mul_neg_of_neg_of_pos z (own_two_pos k)
  have h2 := Int.mul_nonneg pn (Int.le_of_lt own_U_pos)
  rw [hx.2] at h1; omega
theorem own_is.pos {x : UInt64} {n : Int} {k : Nat} (hx : own_is x n k) (pn : 0 < n) : 0 < own_z x := by
  refine Int.not_le.mp fun z => ?_
  have h1 : own_z x * ((2 ^ k : Nat) : Int) ≤ 0 := Int.mul_nonpos_of_nonpos_of_nonneg z (Int.le_of_lt (own_two_pos k))
  have h2 := Int.mul_pos pn own_U_pos
  rw [hx.2] at h1; omega
theorem own_is.z {x : UInt64} {n : Int} (hx : own_is x n 0) : own_z x = n * (own_U : Int) := by
  have h := hx.2
  rw [Nat.pow_zero] at h
  exact (Int.mul_one _).symm.trans h
theorem own_is.ceq {x y : UInt64} {n m : Int} {k : Nat} (hx : own_is x n k) (hy : own_is y m k) (h : n = m) (o : ClassFile.CmpOp) : Jvm.Op.cmpValue (FP.dcmp x y) o = 0 := own_cmp_eq hx.val hy.val ((hx.eq_iff hy).mpr h) o
theorem own_is.clt {x y : UInt64} {n m : Int} {k : Nat} (hx : own_is x n k) (hy : own_is y m k) (h : n < m) (o : ClassFile.CmpOp) : Jvm.Op.cmpValue (FP.dcmp x y) o = -1 := own_cmp_lt hx.val hy.val ((hx.lt_iff hy).mpr h) o
theorem own_is.cgt {x y : UInt64} {n m : Int} {k : Nat} (hx : own_is x n k) (hy : own_is y m k) (h : m < n) (o : ClassFile.CmpOp) : Jvm.Op.cmpValue (FP.dcmp x y) o = 1 := own_cmp_gt hx.val hy.val ((hy.lt_iff hx).mpr h) o
theorem own_is.zero : own_is FP.dconst0 0 0 := by
  refine ⟨⟨_, _, _, val64_dconst0⟩, ?_⟩
  show zval b64 (val64 dconst0) * _ = _
  rw [val64_dconst0, Int.zero_mul]
  show signed false (0 * _) * _ = _
  rw [Nat.zero_mul, signed_zero, Int.zero_mul]
theorem own_is.one : own_is FP.dconst1 1 0 := by
  refine ⟨⟨_, _, _, val64_dconst1⟩, ?_⟩
  show zval b64 (val64 dconst1) * _ = _
  rw [val64_dconst1, own_U_eq]
  decide +kernel
end Jvm.OwnFl
namespace Jvm.OwnFl
open Jvm.FP.Core
theorem own_zmag_sign (s s' : Bool) (A B : Nat) (e : Int) : zmag b64 (roundRatio b64 s A B e) = zmag b64 (roundRatio b64 s' A B e) := by
  unfold roundRatio
  split
  · rfl
  · unfold roundAt settle
    split
    · unfold bound
      split <;> rfl
    · unfold bound
      split <;> rfl
theorem own_dist {a x y : Nat} (hx : x < a) (hy : a < y) (h : ((a : Int) - (y : Int)).natAbs ≤ ((a : Int) - (x : Int)).natAbs) : x + y ≤ 2 * a := by omega
theorem own_dist' {a x y : Nat} (hx : x < a) (hy : a < y) (h : ((a : Int) - (x : Int)).natAbs ≤ ((a : Int) - (y : Int)).natAbs) : 2 * a ≤ x + y := by omega
/-- rounding is monotone -/
theorem own_rr_mono {s : Bool} {A B A' B' : Nat} {e e' e0 : Int} (hB : 0 < B) (hB' : 0 < B') (h0 : e0 < b64.qmin) (he : e0 ≤ e) (he' : e0 ≤ e') (h : inUnits A e e0 * B' ≤ inUnits A' e' e0 * B) :
    zmag b64 (roundRatio b64 s A B e) ≤ zmag b64 (roundRatio b64 s A' B' e') := by
  refine Nat.le_of_not_lt fun hlt => ?_
  have h0' : e0 ≤ b64.qmin := by omega
  have fW := roundRatio_fits good_b64 s A hB e
  have fV := roundRatio_fits good_b64 s A' hB' e'
  have nW := roundRatio_ne_nan b64 s A B e
  have nV := roundRatio_ne_nan b64 s A' B' e'
  have k1 : zmag b64 (roundRatio b64 s A' B' e') * 2 ^ (b64.qmin - e0).toNat * B < inUnits A e e0 := Nat.lt_of_not_le fun q => Nat.not_le.mpr hlt (zmag_roundRatio_le good_b64 hB fV nV h0' he q)
  have k2 : inUnits A' e' e0 < zmag b64 (roundRatio b64 s A B e) * 2 ^ (b64.qmin - e0).toNat * B' := Nat.lt_of_not_le fun q => Nat.not_le.mpr hlt (zmag_roundRatio_ge good_b64 hB' fW h0' he' q)
  rcases roundRatio_cases b64 s A' B' e' with ⟨cv, qv, eV⟩ | eV
  · rcases roundRatio_cases b64 s A B e with ⟨cw, qw, eW⟩ | eW
    · have fv := eV ▸ fV
      have fw := eW ▸ fW
      have n1 := roundRatio_nearest good_b64 hB eW fv.1 fv.2.1 h0' he
      have n2 := roundRatio_nearest good_b64 hB' eV fw.1 fw.2.1 h0' he'
      unfold distance at n1 n2
      rw [units_fin fv h0', units_fin fw h0'] at n1 n2
      rw [eV] at k1
      rw [eW] at k2
      generalize zmag b64 (.fin s cv qv) * 2 ^ (b64.qmin - e0).toNat = x at *
      generalize zmag b64 (.fin s cw qw) * 2 ^ (b64.qmin - e0).toNat = y at *
      generalize hI : inUnits A e e0 = a at *
      generalize hI' : inUnits A' e' e0 = a' at *
      have k3 : x * B' < a' := by
        refine Nat.lt_of_mul_lt_mul_right (a := B) ?_
        calc x * B' * B = x * B * B' := by ac_rfl
          _ < a * B' := Nat.mul_lt_mul_of_pos_right k1 hB'
          _ ≤ a' * B := h
      have k4 : a < y * B := by
        refine Nat.lt_of_mul_lt_mul_right (a := B') ?_
        calc a * B' ≤ a' * B := h
          _ < y * B' * B := Nat.mul_lt_mul_of_pos_right k2 hB
          _ = y * B * B' := by ac_rfl
      rw [← Int.natCast_mul, ← Int.natCast_mul] at n1 n2
      have d1 := own_dist k1 k4 n1
      have d2 := own_dist' k3 k2 n2
      have g1 : (x + y) * B * B' ≤ 2 * (a * B') := by
        rw [← Nat.mul_assoc]
        refine Nat.mul_le_mul_right _ ?_
        rw [Nat.add_mul]; exact d1
      have g2 : 2 * (a' * B) ≤ (x + y) * B * B' := by
        rw [← Nat.mul_assoc, show (x + y) * B * B' = (x + y) * B' * B by ac_rfl]
        refine Nat.mul_le_mul_right _ ?_
        rw [Nat.add_mul]; exact d2
      have heq : a * B' = a' * B := by omega
      rw [← hI, ← hI'] at heq
      unfold inUnits at heq
      have hP : A * B' * 2 ^ (e - e0).toNat = A' * B * 2 ^ (e' - e0).toNat := by
        calc A * B' * 2 ^ (e - e0).toNat = A * 2 ^ (e - e0).toNat * B' := by ac_rfl
          _ = A' * 2 ^ (e' - e0).toNat * B := heq
          _ = A' * B * 2 ^ (e' - e0).toNat := by ac_rfl
      have hC : A * B' * 2 ^ (e - e').toNat = A' * B * 2 ^ (e' - e).toNat := own_pow_shift hP (by omega)
      rw [roundRatio_congr hB hB' hC] at hlt
      exact Nat.lt_irrefl _ hlt
    · rw [roundRatio_inf good_b64 hB h0 he] at eW
      have eV2 : roundRatio b64 s A' B' e' = .inf s := by
        rw [roundRatio_inf good_b64 hB' h0 he']
        refine Nat.le_of_mul_le_mul_right (c := B) ?_ hB
        calc (2 ^ (b64.p + 1) - 1) * 2 ^ (b64.qmax - 1 - e0).toNat * B' * B = (2 ^ (b64.p + 1) - 1) * 2 ^ (b64.qmax - 1 - e0).toNat * B * B' := by ac_rfl
          _ ≤ inUnits A e e0 * B' := Nat.mul_le_mul_right _ eW
          _ ≤ inUnits A' e' e0 * B := h
      rw [eV] at eV2
      exact Datum.noConfusion eV2
  · have := zmag_le_top good_b64 fW
    rw [eV] at hlt
    exact Nat.lt_irrefl _ (Nat.lt_of_lt_of_le hlt this)
theorem own_zval_nonneg {d : Datum} (h : sgn d = false) : zval b64 d = (zmag b64 d : Int) := by unfold zval; rw [h]; rfl
/-- whole numbers that aren't negative, converted -/
theorem own_l2d_rr {a : Int64} (h : 0 ≤ a.toInt) : own_z (l2d a) = (zmag b64 (roundRatio b64 false a.toInt.natAbs 1 0) : Int) := by
  show zval b64 (val64 (l2d a)) = _
  rw [val64_l2d]
  unfold ofInt
  rw [show decide (a.toInt < 0) = false from decide_eq_false (by omega)]
  exact own_zval_nonneg (sgn_roundRatio _ _ _ _ _)
theorem own_l2d_mono {a b : Int64} (h0 : 0 ≤ a.toInt) (h : a.toInt ≤ b.toInt) : own_z (l2d a) ≤ own_z (l2d b) := by
  rw [own_l2d_rr h0, own_l2d_rr (Int.le_trans h0 h)]
  refine Int.ofNat_le.mpr (own_rr_mono (e0 := -2000) (by decide) (by decide) (by rw [qmin_b64]; decide) (by decide) (by decide) ?_)
  unfold inUnits
  rw [Nat.mul_one, Nat.mul_one]
  exact Nat.mul_le_mul_right _ (by omega)
/-- a sum of two finite doubles that isn't negative -/
theorem own_sum_rr {x y : UInt64} (hx : DFin x) (hy : DFin y) (h : 0 ≤ own_z x + own_z y) : ∃ (n : Nat) (e : Int), b64.qmin ≤ e ∧ ((inUnits n e b64.qmin : Nat) : Int) = own_z x + own_z y ∧ own_z (dadd x y) = (zmag b64 (roundRatio b64 false n 1 e) : Int) ∧ val64 (dadd x y) ≠ .nan := by
  obtain ⟨s, c, q, e1⟩ := hx
  obtain ⟨t, d, r, e2⟩ := hy
  have f1 : Jvm.FP.Core.fits b64 (.fin s c q) := e1 ▸ val64_fits x
  have f2 : Jvm.FP.Core.fits b64 (.fin t d r) := e2 ▸ val64_fits y
  obtain ⟨sg, n, e, h1, h2, h3⟩ := sum_units f1 f2
  have u1 : own_z x = zval b64 (.fin s c q) := by unfold own_z; rw [e1]
  have u2 : own_z y = zval b64 (.fin t d r) := by unfold own_z; rw [e2]
  rw [show zval b64 (.fin s c q) + zval b64 (.fin t d r) = own_z x + own_z y by rw [u1, u2]] at h3
  have v : val64 (dadd x y) = roundRatio b64 sg n 1 e := by rw [val64_dadd, e1, e2, h1]; rfl
  refine ⟨n, e, h2, ?_, ?_, by rw [v]; exact roundRatio_ne_nan _ _ _ _ _⟩
  · rw [← h3, own_nonneg (by rw [h3]; exact h)]
  · show zval b64 (val64 (dadd x y)) = _
    rw [v, own_zmag_sign false sg]
    cases sg
    · exact own_zval_nonneg (sgn_roundRatio _ _ _ _ _)
    · have z : n * 2 ^ (e - b64.qmin).toNat = 0 := by
        have k : 0 ≤ signed true (inUnits n e b64.qmin) := by rw [h3]; exact h
        simp only [signed, if_true, inUnits] at k
        omega
      have n0 : n = 0 := by
        rcases Nat.mul_eq_zero.mp z with k | k
        · exact k
        · have := Nat.two_pow_pos (e - b64.qmin).toNat; omega
      have k := own_rr0 true 1 e
      rw [n0, k]
      unfold zval at k
      rw [signed_eq_zero] at k
      rw [k]; rfl
theorem own_dadd_mono {x y x' y' : UInt64} (hx : DFin x) (hy : DFin y) (hx' : DFin x') (hy' : DFin y') (h0 : 0 ≤ own_z x + own_z y) (h : own_z x + own_z y ≤ own_z x' + own_z y') : own_z (dadd x y) ≤ own_z (dadd x' y') := by
  obtain ⟨n, e, h1, h2, h3, -⟩ := own_sum_rr hx hy h0
  obtain ⟨n', e', h1', h2', h3', -⟩ := own_sum_rr hx' hy' (Int.le_trans h0 h)
  rw [h3, h3']
  have hq := qmin_b64
  refine Int.ofNat_le.mpr (own_rr_mono (e0 := -2000) (by decide) (by decide) (by omega) (by omega) (by omega) ?_)
  rw [inUnits_move n (r := b64.qmin) (by omega) h1, inUnits_move n' (r := b64.qmin) (by omega) h1', Nat.mul_one, Nat.mul_one]
  refine Nat.mul_le_mul_right _ (Int.ofNat_le.mp ?_)
  rw [h2, h2']; exact h
theorem own_dadd_le {x y w : UInt64} (hx : DFin x) (hy : DFin y) (hw : val64 w ≠ .nan) (h : own_z x + own_z y ≤ own_z w) : own_z (dadd x y) ≤ own_z w := by
  show zval b64 (val64 (dadd x y)) ≤ _
  rw [val64_dadd]
  exact sum_le good_b64 hx hy (val64_fits x) (val64_fits y) (val64_fits w) hw h
theorem own_dadd_ge {x y w : UInt64} (hx : DFin x) (hy : DFin y) (hw : val64 w ≠ .nan) (h : own_z w ≤ own_z x + own_z y) : own_z w ≤ own_z (dadd x y) := by
  show _ ≤ zval b64 (val64 (dadd x y))
  rw [val64_dadd]
  exact sum_ge good_b64 hx hy (val64_fits x) (val64_fits y) (val64_fits w) hw h
theorem own_fin_le {x w : UInt64} (hn : val64 x ≠ .nan) (h0 : 0 ≤ own_z x) (hw : DFin w) (h : own_z x ≤ own_z w) : DFin x := by
  cases hv : val64 x with
  | nan => exact absurd hv hn
  | inf s =>
    exfalso
    obtain ⟨t, c, q, ew⟩ := hw
    have fw : Jvm.FP.Core.fits b64 (.fin t c q) := ew ▸ val64_fits w
    have l := zmag_lt_top good_b64 fw
    have ex : own_z x = signed s (b64.tails * 2 ^ (b64.exps - 2)) := by unfold own_z; rw [hv]; rfl
    have e2 : own_z w = signed t (zmag b64 (.fin t c q)) := by unfold own_z; rw [ew]; rfl
    rw [ex] at h0 h
    rw [own_nonneg h0] at h
    have p : 0 ≤ own_z w := Int.le_trans (Int.natCast_nonneg _) h
    rw [e2] at p h
    rw [own_nonneg p] at h
    exact absurd (Int.ofNat_le.mp h) (Nat.not_le.mpr l)
  | fin s c q => exact ⟨s, c, q, hv⟩
/-- a greater divisor, no greater quotient -/
theorem own_div_anti {x y y' : UInt64} (hx : DFin x) (hy : DFin y) (hy' : DFin y') (px : 0 ≤ own_z x) (py : 0 < own_z y) (h : own_z y ≤ own_z y') : own_z (ddiv x y') ≤ own_z (ddiv x y) := by
  obtain ⟨c, d, q, r, q1, q2, q3, q4, d0, zx, zy, -, s, zq⟩ := own_div_mag hx hy px py
  obtain ⟨c', d', q', r', q1', q2', q3', q4', d0', zx', zy', -, s', zq'⟩ := own_div_mag hx hy' px (Int.lt_of_lt_of_le py h)
  have hq := qmin_b64
  have hm : b64.qmax = 971 := by decide
  rw [zq, zq', own_zmag_sign s' s]
  refine Int.ofNat_le.mpr (own_rr_mono (e0 := -6000) d0' d0 (by omega) (by omega) (by omega) ?_)
  have ec : c' * 2 ^ (q' - b64.qmin).toNat = c * 2 ^ (q - b64.qmin).toNat := Int.natCast_inj.mp (zx'.symm.trans zx)
  have ed : d * 2 ^ (r - b64.qmin).toNat ≤ d' * 2 ^ (r' - b64.qmin).toNat := by rw [zy, zy'] at h; exact Int.ofNat_le.mp h
  unfold inUnits
  have hN : c' * 2 ^ (q' - b64.qmin).toNat * (d * 2 ^ (r - b64.qmin).toNat) ≤ c * 2 ^ (q - b64.qmin).toNat * (d' * 2 ^ (r' - b64.qmin).toNat) := by
    rw [ec]; exact Nat.mul_le_mul_left _ ed
  have hP : c' * d * 2 ^ ((q' - b64.qmin).toNat + (r - b64.qmin).toNat) ≤ c * d' * 2 ^ ((q - b64.qmin).toNat + (r' - b64.qmin).toNat) := by
    rw [Nat.pow_add, Nat.pow_add]
    calc c' * d * (2 ^ (q' - b64.qmin).toNat * 2 ^ (r - b64.qmin).toNat) = c' * 2 ^ (q' - b64.qmin).toNat * (d * 2 ^ (r - b64.qmin).toNat) := by ac_rfl
      _ ≤ c * 2 ^ (q - b64.qmin).toNat * (d' * 2 ^ (r' - b64.qmin).toNat) := hN
      _ = c * d' * (2 ^ (q - b64.qmin).toNat * 2 ^ (r' - b64.qmin).toNat) := by ac_rfl
  have hC : c' * d * 2 ^ (q' - r' - (-6000)).toNat ≤ c * d' * 2 ^ (q - r - (-6000)).toNat := own_pow_shift_le hP (by omega)
  calc c' * 2 ^ (q' - r' - (-6000)).toNat * d = c' * d * 2 ^ (q' - r' - (-6000)).toNat := by ac_rfl
    _ ≤ c * d' * 2 ^ (q - r - (-6000)).toNat := hC
    _ = c * 2 ^ (q - r - (-6000)).toNat * d' := by ac_rfl
end Jvm.OwnFl
namespace Jvm.Pilot.@@N@@
open Jvm Jvm.ClassFile Sem Op Lib Jvm.Free Jvm.Stand Jvm.LawKit Jvm.RoadKit Bundle Jvm.Free.Fl Jvm.OwnFl Jvm.Pilot.@@N@@.Jvm.D
theorem own_hw {a0 : Array Value} {Z : State} (hw : ∀ d ∈ tables_1, d.before a0 Z = true) (i : Nat) {d : Jvm.Cond} (h : tables_1[i]? = some d) : d.before a0 Z = true := hw d (List.mem_of_getElem? h)
section OwnKit
variable {p : Program} {l : Launch} {e : Env} {R : Room} {s : State} {m : MethodId} {args : Array Value} {below : List Frame} {meth : Method} {c : Code} {T : State} {locs : List Loc} {cells slots : Nat}
/-- from the state t the run goes on to a return of which Q holds -/
def own_Go (p : Program) (e : Env) (below : List Frame) (Fe : Outcome → State → List Loc → Prop) (Q : Option Value → Heap → List Loc → Prop) (t : State) : Prop :=
  ∃ s₂ o, Steps p.tables e below t s₂ ∧ s₂.status = .running ∧ Ended s₂ below o ∧ ∃ v L, o = .returned v ∧ Q v s₂.heap L ∧ Fe o s₂ L
theorem own_st {Fe : Outcome → State → List Loc → Prop} {Q : Option Value → Heap → List Loc → Prop} {t t' : State} (h : ∀ target, Steps p.tables e below t' target → Steps p.tables e below t target) (k : own_Go p e below Fe Q t') : own_Go p e below Fe Q t := by
  obtain ⟨s₂, o, h1, r⟩ := k
  exact ⟨s₂, o, h _ h1, r⟩
theorem own_tr {Fe : Outcome → State → List Loc → Prop} {Q : Option Value → Heap → List Loc → Prop} {t t' : State} (h : Steps p.tables e below t t') (k : own_Go p e below Fe Q t') : own_Go p e below Fe Q t := own_st (fun _ q => h.trans q) k
theorem own_ret (X : Stand p l e R s m args below meth c T locs cells slots) {K N : Nat} {Q : Option Value → Heap → List Loc → Prop} {t : State} (v : Option Value) (hv : meth.sig.returnType = none → v = none) (hlocks : meth.locks = false) (hK : cells ≤ K) (hN : slots ≤ N) (hQ : Q v T.heap locs)
    (hs : ∀ fs : List Frame, (∀ (f : JFrame) (acts : List Action), f.method = m → f.locked = none → f.entered = [] → (doReturn e (T.setTop f) acts v).1 = T.setFrames fs) → Steps p.tables e below t (T.setFrames fs)) : own_Go p e below (fun o u L => FrameEnd s o u L K N) Q t := by
  obtain ⟨fs, hr, hrun, hended, hW, hsame⟩ := X.leave (v := v) hv
  exact ⟨_, _, hs fs hr, hrun, hended, _, _, rfl, hQ, ⟨_, rfl⟩, hW, hsame.mono hK hN⟩
theorem own_retI (X : Stand p l e R s m args below meth c T locs cells slots) (hx : p.tables.exec = Jvm.exec) {pc : Nat} {Ls : Array Slot} {z : Int32} {rest : List Value} (hret : meth.sig.returnType = some .int) (hd : decode c.code pc = .ok (.ireturn, 1)) {fs : List Frame}
    (hl : ∀ (f : JFrame) (acts : List Action), f.method = m → f.locked = none → f.entered = [] → (doReturn e (T.setTop f) acts (some (.int z))).1 = T.setFrames fs) : Steps p.tables e below (T.setTop (mkF m pc Ls (.int z :: rest))) (T.setFrames fs) :=
  retOut X hx hret rfl (Or.inl ⟨rfl, Or.inl rfl, _, rfl⟩) hd hl
theorem own_retD (X : Stand p l e R s m args below meth c T locs cells slots) (hx : p.tables.exec = Jvm.exec) {pc : Nat} {Ls : Array Slot} {z : UInt64} {rest : List Value} (hret : meth.sig.returnType = some .double) (hd : decode c.code pc = .ok (.dreturn, 1)) {fs : List Frame}
    (hl : ∀ (f : JFrame) (acts : List Action), f.method = m → f.locked = none → f.entered = [] → (doReturn e (T.setTop f) acts (some (.double z))).1 = T.setFrames fs) : Steps p.tables e below (T.setTop (mkF m pc Ls (.double z :: rest))) (T.setFrames fs) :=
  retOut X hx hret rfl (Or.inr (Or.inr (Or.inl ⟨rfl, rfl, _, rfl⟩))) hd hl
theorem own_retJ (X : Stand p l e R s m args below meth c T locs cells slots) (hx : p.tables.exec = Jvm.exec) {pc : Nat} {Ls : Array Slot} {z : Int64} {rest : List Value} (hret : meth.sig.returnType = some .long) (hd : decode c.code pc = .ok (.lreturn, 1)) {fs : List Frame}
    (hl : ∀ (f : JFrame) (acts : List Action), f.method = m → f.locked = none → f.entered = [] → (doReturn e (T.setTop f) acts (some (.long z))).1 = T.setFrames fs) : Steps p.tables e below (T.setTop (mkF m pc Ls (.long z :: rest))) (T.setFrames fs) :=
  retOut X hx hret rfl (Or.inr (Or.inl ⟨rfl, rfl, _, rfl⟩)) hd hl
theorem own_retR (X : Stand p l e R s m args below meth c T locs cells slots) (hx : p.tables.exec = Jvm.exec) {pc : Nat} {Ls : Array Slot} {w : Value} {rest : List Value} {t : FieldType} (hret : meth.sig.returnType = some t) (ht : t.isReference = true) (hw : w.isRef = true) (hd : decode c.code pc = .ok (.areturn, 1)) {fs : List Frame}
    (hl : ∀ (f : JFrame) (acts : List Action), f.method = m → f.locked = none → f.entered = [] → (doReturn e (T.setTop f) acts (some w)).1 = T.setFrames fs) : Steps p.tables e below (T.setTop (mkF m pc Ls (w :: rest))) (T.setFrames fs) :=
  retOut X hx hret (by cases t <;> first | (cases ht; done) | rfl) (Or.inr (Or.inr (Or.inr (Or.inr ⟨rfl, ht, hw⟩)))) hd hl
theorem own_staKeep {Z : State} {h h' : Heap} {C n d : String} {v : Value} {ws : List Addr} (F : Sta Z h C n d v) (K : Keep h h' ws) (hn : ∀ x ∈ ws, ∀ cell : Cell, h[x]? = some cell → cell.vm.isStatics = false) : Sta Z h' C n d v := by
  obtain ⟨cf, i, k, f, st, cell, h1, h2, h3, h4, h5, h6, h7⟩ := F
  exact ⟨cf, i, k, f, st, cell, h1, h2, h3, h4, K.2.1 st cell h5 (fun q => by have := hn st q cell h5; rw [h6] at this; cases this), h6, h7⟩
end OwnKit
section OwnSteps
variable {p : Program} {l : Launch} {e : Env} {R : Room} {s : State} {m : MethodId} {args : Array Value} {below : List Frame} {meth : Method} {c : Code} {T : State} {locs : List Loc} {cells slots : Nat} {Fe : Outcome → State → List Loc → Prop} {Q : Option Value → Heap → List Loc → Prop} {pc : Nat} {Ls : Array Slot} {st : List Value} {Z : State} {a0 : Array Value} {h : Heap}
theorem own_iload (X : Stand p l e R s m args below meth c T locs cells slots) (hx : p.tables.exec = Jvm.exec) {i : Nat} {v : Int32} (pc' : Nat) (hp : pc + 2 = pc') (hd : decode c.code pc = .ok (.iload i, 2)) (hl : Ls[i]? = some (.val (.int v))) (k : own_Go p e below Fe Q (T.setTop (mkF m pc' Ls (.int v :: st)))) : own_Go p e below Fe Q (T.setTop (mkF m pc Ls (st))) := by
  subst hp
  exact own_st (fun _ hr => XS.iload X.here hx rfl hd hl hr) k
theorem own_iloadN (X : Stand p l e R s m args below meth c T locs cells slots) (hx : p.tables.exec = Jvm.exec) {i : Fin 4} {v : Int32} (pc' : Nat) (hp : pc + 1 = pc') (hd : decode c.code pc = .ok (.iload_n i, 1)) (hl : Ls[i.val]? = some (.val (.int v))) (k : own_Go p e below Fe Q (T.setTop (mkF m pc' Ls (.int v :: st)))) : own_Go p e below Fe Q (T.setTop (mkF m pc Ls (st))) := by
  subst hp
  exact own_st (fun _ hr => XS.iloadN X.here hx rfl hd hl hr) k
theorem own_istore (X : Stand p l e R s m args below meth c T locs cells slots) (hx : p.tables.exec = Jvm.exec) {i : Nat} {x : Int32} (pc' : Nat) (hp : pc + 2 = pc') (hd : decode c.code pc = .ok (.istore i, 2)) (Ls' : Array Slot) (hl : storeLocals Ls i (.int x) = some Ls') (k : own_Go p e below Fe Q (T.setTop (mkF m pc' Ls' (st)))) : own_Go p e below Fe Q (T.setTop (mkF m pc Ls (.int x :: st))) := by
  subst hp
  exact own_st (fun _ hr => XS.istore X.here hx rfl hd rfl hl hr) k
theorem own_istoreN (X : Stand p l e R s m args below meth c T locs cells slots) (hx : p.tables.exec = Jvm.exec) {i : Fin 4} {x : Int32} (pc' : Nat) (hp : pc + 1 = pc') (hd : decode c.code pc = .ok (.istore_n i, 1)) (Ls' : Array Slot) (hl : storeLocals Ls i.val (.int x) = some Ls') (k : own_Go p e below Fe Q (T.setTop (mkF m pc' Ls' (st)))) : own_Go p e below Fe Q (T.setTop (mkF m pc Ls (.int x :: st))) := by
  subst hp
  exact own_st (fun _ hr => XS.istoreN X.here hx rfl hd rfl hl hr) k
theorem own_lload (X : Stand p l e R s m args below meth c T locs cells slots) (hx : p.tables.exec = Jvm.exec) {i : Nat} {v : Int64} (pc' : Nat) (hp : pc + 2 = pc') (hd : decode c.code pc = .ok (.lload i, 2)) (hl : Ls[i]? = some (.val (.long v))) (k : own_Go p e below Fe Q (T.setTop (mkF m pc' Ls (.long v :: st)))) : own_Go p e below Fe Q (T.setTop (mkF m pc Ls (st))) := by
  subst hp
  exact own_st (fun _ hr => XS.lload X.here hx rfl hd hl hr) k
theorem own_lloadN (X : Stand p l e R s m args below meth c T locs cells slots) (hx : p.tables.exec = Jvm.exec) {i : Fin 4} {v : Int64} (pc' : Nat) (hp : pc + 1 = pc') (hd : decode c.code pc = .ok (.lload_n i, 1)) (hl : Ls[i.val]? = some (.val (.long v))) (k : own_Go p e below Fe Q (T.setTop (mkF m pc' Ls (.long v :: st)))) : own_Go p e below Fe Q (T.setTop (mkF m pc Ls (st))) := by
  subst hp
  exact own_st (fun _ hr => XS.lloadN X.here hx rfl hd hl hr) k
theorem own_lstore (X : Stand p l e R s m args below meth c T locs cells slots) (hx : p.tables.exec = Jvm.exec) {i : Nat} {x : Int64} (pc' : Nat) (hp : pc + 2 = pc') (hd : decode c.code pc = .ok (.lstore i, 2)) (Ls' : Array Slot) (hl : storeLocals Ls i (.long x) = some Ls') (k : own_Go p e below Fe Q (T.setTop (mkF m pc' Ls' (st)))) : own_Go p e below Fe Q (T.setTop (mkF m pc Ls (.long x :: st))) := by
  subst hp
  exact own_st (fun _ hr => XS.lstore X.here hx rfl hd rfl hl hr) k
theorem own_lstoreN (X : Stand p l e R s m args below meth c T locs cells slots) (hx : p.tables.exec = Jvm.exec) {i : Fin 4} {x : Int64} (pc' : Nat) (hp : pc + 1 = pc') (hd : decode c.code pc = .ok (.lstore_n i, 1)) (Ls' : Array Slot) (hl : storeLocals Ls i.val (.long x) = some Ls') (k : own_Go p e below Fe Q (T.setTop (mkF m pc' Ls' (st)))) : own_Go p e below Fe Q (T.setTop (mkF m pc Ls (.long x :: st))) := by
  subst hp
  exact own_st (fun _ hr => XS.lstoreN X.here hx rfl hd rfl hl hr) k
theorem own_dload (X : Stand p l e R s m args below meth c T locs cells slots) (hx : p.tables.exec = Jvm.exec) {i : Nat} {v : UInt64} (pc' : Nat) (hp : pc + 2 = pc') (hd : decode c.code pc = .ok (.dload i, 2)) (hl : Ls[i]? = some (.val (.double v))) (k : own_Go p e below Fe Q (T.setTop (mkF m pc' Ls (.double v :: st)))) : own_Go p e below Fe Q (T.setTop (mkF m pc Ls (st))) := by
  subst hp
  exact own_st (fun _ hr => XS.dload X.here hx rfl hd hl hr) k
theorem own_dloadN (X : Stand p l e R s m args below meth c T locs cells slots) (hx : p.tables.exec = Jvm.exec) {i : Fin 4} {v : UInt64} (pc' : Nat) (hp : pc + 1 = pc') (hd : decode c.code pc = .ok (.dload_n i, 1)) (hl : Ls[i.val]? = some (.val (.double v))) (k : own_Go p e below Fe Q (T.setTop (mkF m pc' Ls (.double v :: st)))) : own_Go p e below Fe Q (T.setTop (mkF m pc Ls (st))) := by
  subst hp
  exact own_st (fun _ hr => XS.dloadN X.here hx rfl hd hl hr) k
theorem own_dstore (X : Stand p l e R s m args below meth c T locs cells slots) (hx : p.tables.exec = Jvm.exec) {i : Nat} {x : UInt64} (pc' : Nat) (hp : pc + 2 = pc') (hd : decode c.code pc = .ok (.dstore i, 2)) (Ls' : Array Slot) (hl : storeLocals Ls i (.double x) = some Ls') (k : own_Go p e below Fe Q (T.setTop (mkF m pc' Ls' (st)))) : own_Go p e below Fe Q (T.setTop (mkF m pc Ls (.double x :: st))) := by
  subst hp
  exact own_st (fun _ hr => XS.dstore X.here hx rfl hd rfl hl hr) k
theorem own_dstoreN (X : Stand p l e R s m args below meth c T locs cells slots) (hx : p.tables.exec = Jvm.exec) {i : Fin 4} {x : UInt64} (pc' : Nat) (hp : pc + 1 = pc') (hd : decode c.code pc = .ok (.dstore_n i, 1)) (Ls' : Array Slot) (hl : storeLocals Ls i.val (.double x) = some Ls') (k : own_Go p e below Fe Q (T.setTop (mkF m pc' Ls' (st)))) : own_Go p e below Fe Q (T.setTop (mkF m pc Ls (.double x :: st))) := by
  subst hp
  exact own_st (fun _ hr => XS.dstoreN X.here hx rfl hd rfl hl hr) k
theorem own_aload (X : Stand p l e R s m args below meth c T locs cells slots) (hx : p.tables.exec = Jvm.exec) {i : Nat} {v : Value} (pc' : Nat) (hp : pc + 2 = pc') (hd : decode c.code pc = .ok (.aload i, 2)) (hl : Ls[i]? = some (.val v)) (hv : v.isRef = true) (k : own_Go p e below Fe Q (T.setTop (mkF m pc' Ls (v :: st)))) : own_Go p e below Fe Q (T.setTop (mkF m pc Ls (st))) := by
  subst hp
  exact own_st (fun _ hr => XS.aload X.here hx rfl hd hl hv hr) k
theorem own_aloadN (X : Stand p l e R s m args below meth c T locs cells slots) (hx : p.tables.exec = Jvm.exec) {i : Fin 4} {v : Value} (pc' : Nat) (hp : pc + 1 = pc') (hd : decode c.code pc = .ok (.aload_n i, 1)) (hl : Ls[i.val]? = some (.val v)) (hv : v.isRef = true) (k : own_Go p e below Fe Q (T.setTop (mkF m pc' Ls (v :: st)))) : own_Go p e below Fe Q (T.setTop (mkF m pc Ls (st))) := by
  subst hp
  exact own_st (fun _ hr => XS.aloadN X.here hx rfl hd hl hv hr) k
theorem own_astore (X : Stand p l e R s m args below meth c T locs cells slots) (hx : p.tables.exec = Jvm.exec) {i : Nat} {x : Value} (pc' : Nat) (hp : pc + 2 = pc') (hd : decode c.code pc = .ok (.astore i, 2)) (hv : x.isRef = true) (Ls' : Array Slot) (hl : storeLocals Ls i x = some Ls') (k : own_Go p e below Fe Q (T.setTop (mkF m pc' Ls' (st)))) : own_Go p e below Fe Q (T.setTop (mkF m pc Ls (x :: st))) := by
  subst hp
  exact own_st (fun _ hr => XS.astore X.here hx rfl hd rfl hv hl hr) k
theorem own_astoreN (X : Stand p l e R s m args below meth c T locs cells slots) (hx : p.tables.exec = Jvm.exec) {i : Fin 4} {x : Value} (pc' : Nat) (hp : pc + 1 = pc') (hd : decode c.code pc = .ok (.astore_n i, 1)) (hv : x.isRef = true) (Ls' : Array Slot) (hl : storeLocals Ls i.val x = some Ls') (k : own_Go p e below Fe Q (T.setTop (mkF m pc' Ls' (st)))) : own_Go p e below Fe Q (T.setTop (mkF m pc Ls (x :: st))) := by
  subst hp
  exact own_st (fun _ hr => XS.astoreN X.here hx rfl hd rfl hv hl hr) k
theorem own_iconst (X : Stand p l e R s m args below meth c T locs cells slots) (hx : p.tables.exec = Jvm.exec) {i : Int} (pc' : Nat) (hp : pc + 1 = pc') (hd : decode c.code pc = .ok (.iconst i, 1)) (z : Int32) (hz : Int32.ofInt i = z) (k : own_Go p e below Fe Q (T.setTop (mkF m pc' Ls (.int z :: st)))) : own_Go p e below Fe Q (T.setTop (mkF m pc Ls (st))) := by
  subst hp; subst hz
  exact own_st (fun _ hr => XS.iconst X.here hx rfl hd hr) k
theorem own_bipush (X : Stand p l e R s m args below meth c T locs cells slots) (hx : p.tables.exec = Jvm.exec) {i : Int} (pc' : Nat) (hp : pc + 2 = pc') (hd : decode c.code pc = .ok (.bipush i, 2)) (z : Int32) (hz : (Int8.ofInt i).toInt32 = z) (k : own_Go p e below Fe Q (T.setTop (mkF m pc' Ls (.int z :: st)))) : own_Go p e below Fe Q (T.setTop (mkF m pc Ls (st))) := by
  subst hp; subst hz
  exact own_st (fun _ hr => XS.bipush X.here hx rfl hd hr) k
theorem own_sipush (X : Stand p l e R s m args below meth c T locs cells slots) (hx : p.tables.exec = Jvm.exec) {i : Int} (pc' : Nat) (hp : pc + 3 = pc') (hd : decode c.code pc = .ok (.sipush i, 3)) (z : Int32) (hz : (Int16.ofInt i).toInt32 = z) (k : own_Go p e below Fe Q (T.setTop (mkF m pc' Ls (.int z :: st)))) : own_Go p e below Fe Q (T.setTop (mkF m pc Ls (st))) := by
  subst hp; subst hz
  exact own_st (fun _ hr => XS.sipush X.here hx rfl hd hr) k
theorem own_lconst (X : Stand p l e R s m args below meth c T locs cells slots) (hx : p.tables.exec = Jvm.exec) {i : Fin 2} (pc' : Nat) (hp : pc + 1 = pc') (hd : decode c.code pc = .ok (.lconst i, 1)) (z : Int64) (hz : Int64.ofNat i = z) (k : own_Go p e below Fe Q (T.setTop (mkF m pc' Ls (.long z :: st)))) : own_Go p e below Fe Q (T.setTop (mkF m pc Ls (st))) := by
  subst hp; subst hz
  exact own_st (fun _ hr => XS.lconst X.here hx rfl hd hr) k
theorem own_dconst0 (X : Stand p l e R s m args below meth c T locs cells slots) (hx : p.tables.exec = Jvm.exec)  (pc' : Nat) (hp : pc + 1 = pc') (hd : decode c.code pc = .ok (.dconst 0, 1))  (k : own_Go p e below Fe Q (T.setTop (mkF m pc' Ls (.double FP.dconst0 :: st)))) : own_Go p e below Fe Q (T.setTop (mkF m pc Ls (st))) := by
  subst hp
  exact own_st (fun _ hr => XS.dconst0 X.here hx rfl hd rfl hr) k
theorem own_dconst1 (X : Stand p l e R s m args below meth c T locs cells slots) (hx : p.tables.exec = Jvm.exec)  (pc' : Nat) (hp : pc + 1 = pc') (hd : decode c.code pc = .ok (.dconst 1, 1))  (k : own_Go p e below Fe Q (T.setTop (mkF m pc' Ls (.double FP.dconst1 :: st)))) : own_Go p e below Fe Q (T.setTop (mkF m pc Ls (st))) := by
  subst hp
  exact own_st (fun _ hr => XS.dconst1 X.here hx rfl hd rfl hr) k
theorem own_aconst_null (X : Stand p l e R s m args below meth c T locs cells slots) (hx : p.tables.exec = Jvm.exec)  (pc' : Nat) (hp : pc + 1 = pc') (hd : decode c.code pc = .ok (.aconst_null, 1))  (k : own_Go p e below Fe Q (T.setTop (mkF m pc' Ls (.null :: st)))) : own_Go p e below Fe Q (T.setTop (mkF m pc Ls (st))) := by
  subst hp
  exact own_st (fun _ hr => XS.aconstNull X.here hx rfl hd hr) k
theorem own_iadd (X : Stand p l e R s m args below meth c T locs cells slots) (hx : p.tables.exec = Jvm.exec) {x y : Int32} (pc' : Nat) (hp : pc + 1 = pc') (hd : decode c.code pc = .ok (.iadd, 1)) (z : Int32) (hz : x + y = z) (k : own_Go p e below Fe Q (T.setTop (mkF m pc' Ls (.int z :: st)))) : own_Go p e below Fe Q (T.setTop (mkF m pc Ls (.int y :: .int x :: st))) := by
  subst hp; subst hz
  exact own_st (fun _ hr => XS.iadd X.here hx rfl hd rfl hr) k
theorem own_isub (X : Stand p l e R s m args below meth c T locs cells slots) (hx : p.tables.exec = Jvm.exec) {x y : Int32} (pc' : Nat) (hp : pc + 1 = pc') (hd : decode c.code pc = .ok (.isub, 1)) (z : Int32) (hz : x - y = z) (k : own_Go p e below Fe Q (T.setTop (mkF m pc' Ls (.int z :: st)))) : own_Go p e below Fe Q (T.setTop (mkF m pc Ls (.int y :: .int x :: st))) := by
  subst hp; subst hz
  exact own_st (fun _ hr => XS.isub X.here hx rfl hd rfl hr) k
theorem own_imul (X : Stand p l e R s m args below meth c T locs cells slots) (hx : p.tables.exec = Jvm.exec) {x y : Int32} (pc' : Nat) (hp : pc + 1 = pc') (hd : decode c.code pc = .ok (.imul, 1)) (z : Int32) (hz : x * y = z) (k : own_Go p e below Fe Q (T.setTop (mkF m pc' Ls (.int z :: st)))) : own_Go p e below Fe Q (T.setTop (mkF m pc Ls (.int y :: .int x :: st))) := by
  subst hp; subst hz
  exact own_st (fun _ hr => XS.imul X.here hx rfl hd rfl hr) k
theorem own_iand (X : Stand p l e R s m args below meth c T locs cells slots) (hx : p.tables.exec = Jvm.exec) {x y : Int32} (pc' : Nat) (hp : pc + 1 = pc') (hd : decode c.code pc = .ok (.iand, 1)) (z : Int32) (hz : x &&& y = z) (k : own_Go p e below Fe Q (T.setTop (mkF m pc' Ls (.int z :: st)))) : own_Go p e below Fe Q (T.setTop (mkF m pc Ls (.int y :: .int x :: st))) := by
  subst hp; subst hz
  exact own_st (fun _ hr => XS.iand X.here hx rfl hd rfl hr) k
theorem own_ior (X : Stand p l e R s m args below meth c T locs cells slots) (hx : p.tables.exec = Jvm.exec) {x y : Int32} (pc' : Nat) (hp : pc + 1 = pc') (hd : decode c.code pc = .ok (.ior, 1)) (z : Int32) (hz : x ||| y = z) (k : own_Go p e below Fe Q (T.setTop (mkF m pc' Ls (.int z :: st)))) : own_Go p e below Fe Q (T.setTop (mkF m pc Ls (.int y :: .int x :: st))) := by
  subst hp; subst hz
  exact own_st (fun _ hr => XS.ior X.here hx rfl hd rfl hr) k
theorem own_ixor (X : Stand p l e R s m args below meth c T locs cells slots) (hx : p.tables.exec = Jvm.exec) {x y : Int32} (pc' : Nat) (hp : pc + 1 = pc') (hd : decode c.code pc = .ok (.ixor, 1)) (z : Int32) (hz : x ^^^ y = z) (k : own_Go p e below Fe Q (T.setTop (mkF m pc' Ls (.int z :: st)))) : own_Go p e below Fe Q (T.setTop (mkF m pc Ls (.int y :: .int x :: st))) := by
  subst hp; subst hz
  exact own_st (fun _ hr => XS.ixor X.here hx rfl hd rfl hr) k
theorem own_ineg (X : Stand p l e R s m args below meth c T locs cells slots) (hx : p.tables.exec = Jvm.exec) {x : Int32} (pc' : Nat) (hp : pc + 1 = pc') (hd : decode c.code pc = .ok (.ineg, 1)) (z : Int32) (hz : -x = z) (k : own_Go p e below Fe Q (T.setTop (mkF m pc' Ls (.int z :: st)))) : own_Go p e below Fe Q (T.setTop (mkF m pc Ls (.int x :: st))) := by
  subst hp; subst hz
  exact own_st (fun _ hr => XS.ineg X.here hx rfl hd rfl hr) k
theorem own_idiv (X : Stand p l e R s m args below meth c T locs cells slots) (hx : p.tables.exec = Jvm.exec) {x y : Int32} (pc' : Nat) (hp : pc + 1 = pc') (hd : decode c.code pc = .ok (.idiv, 1)) (hy : y ≠ 0) (z : Int32) (hz : x / y = z) (k : own_Go p e below Fe Q (T.setTop (mkF m pc' Ls (.int z :: st)))) : own_Go p e below Fe Q (T.setTop (mkF m pc Ls (.int y :: .int x :: st))) := by
  subst hp; subst hz
  exact own_st (fun _ hr => XS.idiv X.here hx rfl hd rfl hy hr) k
theorem own_ladd (X : Stand p l e R s m args below meth c T locs cells slots) (hx : p.tables.exec = Jvm.exec) {x y : Int64} (pc' : Nat) (hp : pc + 1 = pc') (hd : decode c.code pc = .ok (.ladd, 1)) (z : Int64) (hz : x + y = z) (k : own_Go p e below Fe Q (T.setTop (mkF m pc' Ls (.long z :: st)))) : own_Go p e below Fe Q (T.setTop (mkF m pc Ls (.long y :: .long x :: st))) := by
  subst hp; subst hz
  exact own_st (fun _ hr => XS.ladd X.here hx rfl hd rfl hr) k
theorem own_lsub (X : Stand p l e R s m args below meth c T locs cells slots) (hx : p.tables.exec = Jvm.exec) {x y : Int64} (pc' : Nat) (hp : pc + 1 = pc') (hd : decode c.code pc = .ok (.lsub, 1)) (z : Int64) (hz : x - y = z) (k : own_Go p e below Fe Q (T.setTop (mkF m pc' Ls (.long z :: st)))) : own_Go p e below Fe Q (T.setTop (mkF m pc Ls (.long y :: .long x :: st))) := by
  subst hp; subst hz
  exact own_st (fun _ hr => XS.lsub X.here hx rfl hd rfl hr) k
theorem own_lmul (X : Stand p l e R s m args below meth c T locs cells slots) (hx : p.tables.exec = Jvm.exec) {x y : Int64} (pc' : Nat) (hp : pc + 1 = pc') (hd : decode c.code pc = .ok (.lmul, 1)) (z : Int64) (hz : x * y = z) (k : own_Go p e below Fe Q (T.setTop (mkF m pc' Ls (.long z :: st)))) : own_Go p e below Fe Q (T.setTop (mkF m pc Ls (.long y :: .long x :: st))) := by
  subst hp; subst hz
  exact own_st (fun _ hr => XS.lmul X.here hx rfl hd rfl hr) k
theorem own_land (X : Stand p l e R s m args below meth c T locs cells slots) (hx : p.tables.exec = Jvm.exec) {x y : Int64} (pc' : Nat) (hp : pc + 1 = pc') (hd : decode c.code pc = .ok (.land, 1)) (z : Int64) (hz : x &&& y = z) (k : own_Go p e below Fe Q (T.setTop (mkF m pc' Ls (.long z :: st)))) : own_Go p e below Fe Q (T.setTop (mkF m pc Ls (.long y :: .long x :: st))) := by
  subst hp; subst hz
  exact own_st (fun _ hr => XS.land X.here hx rfl hd rfl hr) k
theorem own_lor (X : Stand p l e R s m args below meth c T locs cells slots) (hx : p.tables.exec = Jvm.exec) {x y : Int64} (pc' : Nat) (hp : pc + 1 = pc') (hd : decode c.code pc = .ok (.lor, 1)) (z : Int64) (hz : x ||| y = z) (k : own_Go p e below Fe Q (T.setTop (mkF m pc' Ls (.long z :: st)))) : own_Go p e below Fe Q (T.setTop (mkF m pc Ls (.long y :: .long x :: st))) := by
  subst hp; subst hz
  exact own_st (fun _ hr => XS.lor X.here hx rfl hd rfl hr) k
theorem own_lxor (X : Stand p l e R s m args below meth c T locs cells slots) (hx : p.tables.exec = Jvm.exec) {x y : Int64} (pc' : Nat) (hp : pc + 1 = pc') (hd : decode c.code pc = .ok (.lxor, 1)) (z : Int64) (hz : x ^^^ y = z) (k : own_Go p e below Fe Q (T.setTop (mkF m pc' Ls (.long z :: st)))) : own_Go p e below Fe Q (T.setTop (mkF m pc Ls (.long y :: .long x :: st))) := by
  subst hp; subst hz
  exact own_st (fun _ hr => XS.lxor X.here hx rfl hd rfl hr) k
theorem own_lneg (X : Stand p l e R s m args below meth c T locs cells slots) (hx : p.tables.exec = Jvm.exec) {x : Int64} (pc' : Nat) (hp : pc + 1 = pc') (hd : decode c.code pc = .ok (.lneg, 1)) (z : Int64) (hz : -x = z) (k : own_Go p e below Fe Q (T.setTop (mkF m pc' Ls (.long z :: st)))) : own_Go p e below Fe Q (T.setTop (mkF m pc Ls (.long x :: st))) := by
  subst hp; subst hz
  exact own_st (fun _ hr => XS.lneg X.here hx rfl hd rfl hr) k
theorem own_ldiv (X : Stand p l e R s m args below meth c T locs cells slots) (hx : p.tables.exec = Jvm.exec) {x y : Int64} (pc' : Nat) (hp : pc + 1 = pc') (hd : decode c.code pc = .ok (.ldiv, 1)) (hy : y ≠ 0) (z : Int64) (hz : x / y = z) (k : own_Go p e below Fe Q (T.setTop (mkF m pc' Ls (.long z :: st)))) : own_Go p e below Fe Q (T.setTop (mkF m pc Ls (.long y :: .long x :: st))) := by
  subst hp; subst hz
  exact own_st (fun _ hr => XS.ldiv X.here hx rfl hd rfl hy hr) k
theorem own_irem (X : Stand p l e R s m args below meth c T locs cells slots) (hx : p.tables.exec = Jvm.exec) {x y : Int32} (pc' : Nat) (hp : pc + 1 = pc') (hd : decode c.code pc = .ok (.irem, 1)) (hy : y ≠ 0) (z : Int32) (hz : x % y = z) (k : own_Go p e below Fe Q (T.setTop (mkF m pc' Ls (.int z :: st)))) : own_Go p e below Fe Q (T.setTop (mkF m pc Ls (.int y :: .int x :: st))) := by
  subst hp; subst hz
  exact own_st (fun _ hr => iremM (g := mkF m pc Ls (.int y :: .int x :: st)) X hx rfl hd rfl hy hr) k
theorem own_lrem (X : Stand p l e R s m args below meth c T locs cells slots) (hx : p.tables.exec = Jvm.exec) {x y : Int64} (pc' : Nat) (hp : pc + 1 = pc') (hd : decode c.code pc = .ok (.lrem, 1)) (hy : y ≠ 0) (z : Int64) (hz : x % y = z) (k : own_Go p e below Fe Q (T.setTop (mkF m pc' Ls (.long z :: st)))) : own_Go p e below Fe Q (T.setTop (mkF m pc Ls (.long y :: .long x :: st))) := by
  subst hp; subst hz
  exact own_st (fun _ hr => XS.lrem X.here hx rfl hd rfl hy (by rw [lrem_mod]; exact hr)) k
theorem own_ishl (X : Stand p l e R s m args below meth c T locs cells slots) (hx : p.tables.exec = Jvm.exec) {x : Int32} {y : Int32} (pc' : Nat) (hp : pc + 1 = pc') (hd : decode c.code pc = .ok (.ishl, 1)) (z : Int32) (hz : x <<< (y &&& 31) = z) (k : own_Go p e below Fe Q (T.setTop (mkF m pc' Ls (.int z :: st)))) : own_Go p e below Fe Q (T.setTop (mkF m pc Ls (.int y :: .int x :: st))) := by
  subst hp; subst hz
  exact own_st (fun _ hr => XS.ishl X.here hx rfl hd rfl hr) k
theorem own_ishr (X : Stand p l e R s m args below meth c T locs cells slots) (hx : p.tables.exec = Jvm.exec) {x : Int32} {y : Int32} (pc' : Nat) (hp : pc + 1 = pc') (hd : decode c.code pc = .ok (.ishr, 1)) (z : Int32) (hz : x >>> (y &&& 31) = z) (k : own_Go p e below Fe Q (T.setTop (mkF m pc' Ls (.int z :: st)))) : own_Go p e below Fe Q (T.setTop (mkF m pc Ls (.int y :: .int x :: st))) := by
  subst hp; subst hz
  exact own_st (fun _ hr => XS.ishr X.here hx rfl hd rfl hr) k
theorem own_iushr (X : Stand p l e R s m args below meth c T locs cells slots) (hx : p.tables.exec = Jvm.exec) {x : Int32} {y : Int32} (pc' : Nat) (hp : pc + 1 = pc') (hd : decode c.code pc = .ok (.iushr, 1)) (z : Int32) (hz : (x.toUInt32 >>> (y &&& 31).toUInt32).toInt32 = z) (k : own_Go p e below Fe Q (T.setTop (mkF m pc' Ls (.int z :: st)))) : own_Go p e below Fe Q (T.setTop (mkF m pc Ls (.int y :: .int x :: st))) := by
  subst hp; subst hz
  exact own_st (fun _ hr => XS.iushr X.here hx rfl hd rfl hr) k
theorem own_lshl (X : Stand p l e R s m args below meth c T locs cells slots) (hx : p.tables.exec = Jvm.exec) {x : Int64} {y : Int32} (pc' : Nat) (hp : pc + 1 = pc') (hd : decode c.code pc = .ok (.lshl, 1)) (z : Int64) (hz : x <<< (y &&& 0x3f).toInt64 = z) (k : own_Go p e below Fe Q (T.setTop (mkF m pc' Ls (.long z :: st)))) : own_Go p e below Fe Q (T.setTop (mkF m pc Ls (.int y :: .long x :: st))) := by
  subst hp; subst hz
  exact own_st (fun _ hr => XS.lshl X.here hx rfl hd rfl hr) k
theorem own_lshr (X : Stand p l e R s m args below meth c T locs cells slots) (hx : p.tables.exec = Jvm.exec) {x : Int64} {y : Int32} (pc' : Nat) (hp : pc + 1 = pc') (hd : decode c.code pc = .ok (.lshr, 1)) (z : Int64) (hz : x >>> (y &&& 0x3f).toInt64 = z) (k : own_Go p e below Fe Q (T.setTop (mkF m pc' Ls (.long z :: st)))) : own_Go p e below Fe Q (T.setTop (mkF m pc Ls (.int y :: .long x :: st))) := by
  subst hp; subst hz
  exact own_st (fun _ hr => XS.lshr X.here hx rfl hd rfl hr) k
theorem own_lushr (X : Stand p l e R s m args below meth c T locs cells slots) (hx : p.tables.exec = Jvm.exec) {x : Int64} {y : Int32} (pc' : Nat) (hp : pc + 1 = pc') (hd : decode c.code pc = .ok (.lushr, 1)) (z : Int64) (hz : (x.toUInt64 >>> (y &&& 0x3f).toInt64.toUInt64).toInt64 = z) (k : own_Go p e below Fe Q (T.setTop (mkF m pc' Ls (.long z :: st)))) : own_Go p e below Fe Q (T.setTop (mkF m pc Ls (.int y :: .long x :: st))) := by
  subst hp; subst hz
  exact own_st (fun _ hr => XS.lushr X.here hx rfl hd rfl hr) k
theorem own_i2l (X : Stand p l e R s m args below meth c T locs cells slots) (hx : p.tables.exec = Jvm.exec) {x : Int32} (pc' : Nat) (hp : pc + 1 = pc') (hd : decode c.code pc = .ok (.i2l, 1)) (z : Int64) (hz : x.toInt64 = z) (k : own_Go p e below Fe Q (T.setTop (mkF m pc' Ls (.long z :: st)))) : own_Go p e below Fe Q (T.setTop (mkF m pc Ls (.int x :: st))) := by
  subst hp; subst hz
  exact own_st (fun _ hr => XS.i2l X.here hx rfl hd rfl hr) k
theorem own_l2i (X : Stand p l e R s m args below meth c T locs cells slots) (hx : p.tables.exec = Jvm.exec) {x : Int64} (pc' : Nat) (hp : pc + 1 = pc') (hd : decode c.code pc = .ok (.l2i, 1)) (z : Int32) (hz : x.toInt32 = z) (k : own_Go p e below Fe Q (T.setTop (mkF m pc' Ls (.int z :: st)))) : own_Go p e below Fe Q (T.setTop (mkF m pc Ls (.long x :: st))) := by
  subst hp; subst hz
  exact own_st (fun _ hr => XS.l2i X.here hx rfl hd rfl hr) k
theorem own_i2b (X : Stand p l e R s m args below meth c T locs cells slots) (hx : p.tables.exec = Jvm.exec) {x : Int32} (pc' : Nat) (hp : pc + 1 = pc') (hd : decode c.code pc = .ok (.i2b, 1)) (z : Int32) (hz : x.toInt8.toInt32 = z) (k : own_Go p e below Fe Q (T.setTop (mkF m pc' Ls (.int z :: st)))) : own_Go p e below Fe Q (T.setTop (mkF m pc Ls (.int x :: st))) := by
  subst hp; subst hz
  exact own_st (fun _ hr => XS.i2b X.here hx rfl hd rfl hr) k
theorem own_i2s (X : Stand p l e R s m args below meth c T locs cells slots) (hx : p.tables.exec = Jvm.exec) {x : Int32} (pc' : Nat) (hp : pc + 1 = pc') (hd : decode c.code pc = .ok (.i2s, 1)) (z : Int32) (hz : x.toInt16.toInt32 = z) (k : own_Go p e below Fe Q (T.setTop (mkF m pc' Ls (.int z :: st)))) : own_Go p e below Fe Q (T.setTop (mkF m pc Ls (.int x :: st))) := by
  subst hp; subst hz
  exact own_st (fun _ hr => XS.i2s X.here hx rfl hd rfl hr) k
theorem own_i2c (X : Stand p l e R s m args below meth c T locs cells slots) (hx : p.tables.exec = Jvm.exec) {x : Int32} (pc' : Nat) (hp : pc + 1 = pc') (hd : decode c.code pc = .ok (.i2c, 1)) (z : Int32) (hz : x.toUInt32.toUInt16.toUInt32.toInt32 = z) (k : own_Go p e below Fe Q (T.setTop (mkF m pc' Ls (.int z :: st)))) : own_Go p e below Fe Q (T.setTop (mkF m pc Ls (.int x :: st))) := by
  subst hp; subst hz
  exact own_st (fun _ hr => XS.i2c X.here hx rfl hd rfl hr) k
theorem own_lcmp (X : Stand p l e R s m args below meth c T locs cells slots) (hx : p.tables.exec = Jvm.exec) {x y : Int64} (pc' : Nat) (hp : pc + 1 = pc') (hd : decode c.code pc = .ok (.lcmp, 1)) (z : Int32) (hz : lcmpW x y = z) (k : own_Go p e below Fe Q (T.setTop (mkF m pc' Ls (.int z :: st)))) : own_Go p e below Fe Q (T.setTop (mkF m pc Ls (.long y :: .long x :: st))) := by
  subst hp; subst hz
  exact own_st (fun _ hr => XS.lcmp X.here hx rfl hd rfl hr) k
theorem own_i2d (X : Stand p l e R s m args below meth c T locs cells slots) (hx : p.tables.exec = Jvm.exec) {x : Int32} (pc' : Nat) (hp : pc + 1 = pc') (hd : decode c.code pc = .ok (.i2d, 1)) (z : UInt64) (hz : FP.i2d x = z) (k : own_Go p e below Fe Q (T.setTop (mkF m pc' Ls (.double z :: st)))) : own_Go p e below Fe Q (T.setTop (mkF m pc Ls (.int x :: st))) := by
  subst hp
  exact own_st (fun _ hr => XS.i2dS X.here hx rfl hd rfl hz hr) k
theorem own_l2d (X : Stand p l e R s m args below meth c T locs cells slots) (hx : p.tables.exec = Jvm.exec) {x : Int64} (pc' : Nat) (hp : pc + 1 = pc') (hd : decode c.code pc = .ok (.l2d, 1)) (z : UInt64) (hz : FP.l2d x = z) (k : own_Go p e below Fe Q (T.setTop (mkF m pc' Ls (.double z :: st)))) : own_Go p e below Fe Q (T.setTop (mkF m pc Ls (.long x :: st))) := by
  subst hp
  exact own_st (fun _ hr => XS.l2dS X.here hx rfl hd rfl hz hr) k
theorem own_d2i (X : Stand p l e R s m args below meth c T locs cells slots) (hx : p.tables.exec = Jvm.exec) {x : UInt64} (pc' : Nat) (hp : pc + 1 = pc') (hd : decode c.code pc = .ok (.d2i, 1)) (z : Int32) (hz : FP.d2i x = z) (k : own_Go p e below Fe Q (T.setTop (mkF m pc' Ls (.int z :: st)))) : own_Go p e below Fe Q (T.setTop (mkF m pc Ls (.double x :: st))) := by
  subst hp
  exact own_st (fun _ hr => XS.d2iS X.here hx rfl hd rfl hz hr) k
theorem own_d2l (X : Stand p l e R s m args below meth c T locs cells slots) (hx : p.tables.exec = Jvm.exec) {x : UInt64} (pc' : Nat) (hp : pc + 1 = pc') (hd : decode c.code pc = .ok (.d2l, 1)) (z : Int64) (hz : FP.d2l x = z) (k : own_Go p e below Fe Q (T.setTop (mkF m pc' Ls (.long z :: st)))) : own_Go p e below Fe Q (T.setTop (mkF m pc Ls (.double x :: st))) := by
  subst hp
  exact own_st (fun _ hr => XS.d2lS X.here hx rfl hd rfl hz hr) k
theorem own_dneg (X : Stand p l e R s m args below meth c T locs cells slots) (hx : p.tables.exec = Jvm.exec) {x : UInt64} (pc' : Nat) (hp : pc + 1 = pc') (hd : decode c.code pc = .ok (.dneg, 1)) (z : UInt64) (hz : FP.dneg x = z) (k : own_Go p e below Fe Q (T.setTop (mkF m pc' Ls (.double z :: st)))) : own_Go p e below Fe Q (T.setTop (mkF m pc Ls (.double x :: st))) := by
  subst hp
  exact own_st (fun _ hr => XS.dnegS X.here hx rfl hd rfl hz hr) k
theorem own_dadd (X : Stand p l e R s m args below meth c T locs cells slots) (hx : p.tables.exec = Jvm.exec) {x y : UInt64} (pc' : Nat) (hp : pc + 1 = pc') (hd : decode c.code pc = .ok (.dadd, 1)) (hn : NoNaN64 (FP.dadd x y)) (z : UInt64) (hz : FP.dadd x y = z) (k : own_Go p e below Fe Q (T.setTop (mkF m pc' Ls (.double z :: st)))) : own_Go p e below Fe Q (T.setTop (mkF m pc Ls (.double y :: .double x :: st))) := by
  subst hp
  exact own_st (fun _ hr => XS.daddS X.here hx rfl hd rfl hn hz hr) k
theorem own_dsub (X : Stand p l e R s m args below meth c T locs cells slots) (hx : p.tables.exec = Jvm.exec) {x y : UInt64} (pc' : Nat) (hp : pc + 1 = pc') (hd : decode c.code pc = .ok (.dsub, 1)) (hn : NoNaN64 (FP.dsub x y)) (z : UInt64) (hz : FP.dsub x y = z) (k : own_Go p e below Fe Q (T.setTop (mkF m pc' Ls (.double z :: st)))) : own_Go p e below Fe Q (T.setTop (mkF m pc Ls (.double y :: .double x :: st))) := by
  subst hp
  exact own_st (fun _ hr => XS.dsubS X.here hx rfl hd rfl hn hz hr) k
theorem own_dmul (X : Stand p l e R s m args below meth c T locs cells slots) (hx : p.tables.exec = Jvm.exec) {x y : UInt64} (pc' : Nat) (hp : pc + 1 = pc') (hd : decode c.code pc = .ok (.dmul, 1)) (hn : NoNaN64 (FP.dmul x y)) (z : UInt64) (hz : FP.dmul x y = z) (k : own_Go p e below Fe Q (T.setTop (mkF m pc' Ls (.double z :: st)))) : own_Go p e below Fe Q (T.setTop (mkF m pc Ls (.double y :: .double x :: st))) := by
  subst hp
  exact own_st (fun _ hr => XS.dmulS X.here hx rfl hd rfl hn hz hr) k
theorem own_ddiv (X : Stand p l e R s m args below meth c T locs cells slots) (hx : p.tables.exec = Jvm.exec) {x y : UInt64} (pc' : Nat) (hp : pc + 1 = pc') (hd : decode c.code pc = .ok (.ddiv, 1)) (hn : NoNaN64 (FP.ddiv x y)) (z : UInt64) (hz : FP.ddiv x y = z) (k : own_Go p e below Fe Q (T.setTop (mkF m pc' Ls (.double z :: st)))) : own_Go p e below Fe Q (T.setTop (mkF m pc Ls (.double y :: .double x :: st))) := by
  subst hp
  exact own_st (fun _ hr => XS.ddivS X.here hx rfl hd rfl hn hz hr) k
theorem own_dcmp (X : Stand p l e R s m args below meth c T locs cells slots) (hx : p.tables.exec = Jvm.exec) {o : CmpOp} {x y : UInt64} (pc' : Nat) (hp : pc + 1 = pc') (hd : decode c.code pc = .ok (.dcmp o, 1)) (z : Int32) (hz : cmpValue (FP.dcmp x y) o = z) (k : own_Go p e below Fe Q (T.setTop (mkF m pc' Ls (.int z :: st)))) : own_Go p e below Fe Q (T.setTop (mkF m pc Ls (.double y :: .double x :: st))) := by
  subst hp
  exact own_st (fun _ hr => XS.dcmpS X.here hx rfl hd rfl hz hr) k
theorem own_iinc (X : Stand p l e R s m args below meth c T locs cells slots) (hx : p.tables.exec = Jvm.exec) {i : Nat} {cst : Int} {x : Int32} (pc' : Nat) (hp : pc + 3 = pc') (hd : decode c.code pc = .ok (.iinc i cst, 3)) (hl : Ls[i]? = some (.val (.int x))) (Ls' : Array Slot) (hl' : storeLocals Ls i (.int (x + Int32.ofInt cst)) = some Ls') (k : own_Go p e below Fe Q (T.setTop (mkF m pc' Ls' (st)))) : own_Go p e below Fe Q (T.setTop (mkF m pc Ls (st))) := by
  subst hp
  exact own_st (fun _ hr => XS.iinc X.here hx rfl hd hl hl' hr) k
theorem own_dup (X : Stand p l e R s m args below meth c T locs cells slots) (hx : p.tables.exec = Jvm.exec) {x : Value} (pc' : Nat) (hp : pc + 1 = pc') (hd : decode c.code pc = .ok (.dup, 1)) (hc : x.category = 1) (k : own_Go p e below Fe Q (T.setTop (mkF m pc' Ls (x :: x :: st)))) : own_Go p e below Fe Q (T.setTop (mkF m pc Ls (x :: st))) := by
  subst hp
  exact own_st (fun _ hr => XS.dup X.here hx rfl hd rfl hc hr) k
theorem own_dupX1 (X : Stand p l e R s m args below meth c T locs cells slots) (hx : p.tables.exec = Jvm.exec) {x y : Value} (pc' : Nat) (hp : pc + 1 = pc') (hd : decode c.code pc = .ok (.dup_x1, 1)) (hc : x.category = 1) (hc' : y.category = 1) (k : own_Go p e below Fe Q (T.setTop (mkF m pc' Ls (x :: y :: x :: st)))) : own_Go p e below Fe Q (T.setTop (mkF m pc Ls (x :: y :: st))) := by
  subst hp
  exact own_st (fun _ hr => XS.dupX1 X.here hx rfl hd rfl hc hc' hr) k
theorem own_pop (X : Stand p l e R s m args below meth c T locs cells slots) (hx : p.tables.exec = Jvm.exec) {x : Value} (pc' : Nat) (hp : pc + 1 = pc') (hd : decode c.code pc = .ok (.pop, 1)) (hc : x.category = 1) (k : own_Go p e below Fe Q (T.setTop (mkF m pc' Ls (st)))) : own_Go p e below Fe Q (T.setTop (mkF m pc Ls (x :: st))) := by
  subst hp
  exact own_st (fun _ hr => XS.pop X.here hx rfl hd rfl hc hr) k
theorem own_goto (X : Stand p l e R s m args below meth c T locs cells slots) (hx : p.tables.exec = Jvm.exec)  {o : Int} (pc' : Nat) (hd : decode c.code pc = .ok (.goto o, 3))  (ho : 0 ≤ (pc : Int) + o) (hp : ((pc : Int) + o).toNat = pc') (k : own_Go p e below Fe Q (T.setTop (mkF m pc' Ls (st)))) : own_Go p e below Fe Q (T.setTop (mkF m pc Ls (st))) :=
  own_st (fun _ hr => XS.goto X.here hx rfl rfl hd ho hp hr) k
theorem own_ifYes (X : Stand p l e R s m args below meth c T locs cells slots) (hx : p.tables.exec = Jvm.exec) {cd : ClassFile.Cond} {x : Int32} {o : Int} (pc' : Nat) (hd : decode c.code pc = .ok (.ifCond cd o, 3)) (hc : ifCond.holds cd x = true) (ho : 0 ≤ (pc : Int) + o) (hp : ((pc : Int) + o).toNat = pc') (k : own_Go p e below Fe Q (T.setTop (mkF m pc' Ls (st)))) : own_Go p e below Fe Q (T.setTop (mkF m pc Ls (.int x :: st))) :=
  own_st (fun _ hr => XS.ifYes X.here hx rfl rfl hd rfl hc ho hp hr) k
theorem own_icmpYes (X : Stand p l e R s m args below meth c T locs cells slots) (hx : p.tables.exec = Jvm.exec) {cd : ClassFile.Cond} {x y : Int32} {o : Int} (pc' : Nat) (hd : decode c.code pc = .ok (.if_icmp cd o, 3)) (hc : if_icmp.holds cd x y = true) (ho : 0 ≤ (pc : Int) + o) (hp : ((pc : Int) + o).toNat = pc') (k : own_Go p e below Fe Q (T.setTop (mkF m pc' Ls (st)))) : own_Go p e below Fe Q (T.setTop (mkF m pc Ls (.int y :: .int x :: st))) :=
  own_st (fun _ hr => XS.icmpYes X.here hx rfl rfl hd rfl hc ho hp hr) k
theorem own_ifnullYes (X : Stand p l e R s m args below meth c T locs cells slots) (hx : p.tables.exec = Jvm.exec)  {o : Int} (pc' : Nat) (hd : decode c.code pc = .ok (.ifnull o, 3))  (ho : 0 ≤ (pc : Int) + o) (hp : ((pc : Int) + o).toNat = pc') (k : own_Go p e below Fe Q (T.setTop (mkF m pc' Ls (st)))) : own_Go p e below Fe Q (T.setTop (mkF m pc Ls (.null :: st))) :=
  own_st (fun _ hr => XS.ifnullYes X.here hx rfl rfl hd rfl ho hp hr) k
theorem own_ifnonnullYes (X : Stand p l e R s m args below meth c T locs cells slots) (hx : p.tables.exec = Jvm.exec) {b : Addr} {o : Int} (pc' : Nat) (hd : decode c.code pc = .ok (.ifnonnull o, 3))  (ho : 0 ≤ (pc : Int) + o) (hp : ((pc : Int) + o).toNat = pc') (k : own_Go p e below Fe Q (T.setTop (mkF m pc' Ls (st)))) : own_Go p e below Fe Q (T.setTop (mkF m pc Ls (.ref b :: st))) :=
  own_st (fun _ hr => XS.ifnonnullYes X.here hx rfl rfl hd rfl ho hp hr) k
theorem own_ifNo (X : Stand p l e R s m args below meth c T locs cells slots) (hx : p.tables.exec = Jvm.exec) {cd : ClassFile.Cond} {o : Int} {x : Int32} (pc' : Nat) (hp : pc + 3 = pc') (hd : decode c.code pc = .ok (.ifCond cd o, 3)) (hc : ifCond.holds cd x = false) (k : own_Go p e below Fe Q (T.setTop (mkF m pc' Ls (st)))) : own_Go p e below Fe Q (T.setTop (mkF m pc Ls (.int x :: st))) := by
  subst hp
  exact own_st (fun _ hr => XS.ifNo X.here hx rfl hd rfl hc hr) k
theorem own_icmpNo (X : Stand p l e R s m args below meth c T locs cells slots) (hx : p.tables.exec = Jvm.exec) {cd : ClassFile.Cond} {o : Int} {x y : Int32} (pc' : Nat) (hp : pc + 3 = pc') (hd : decode c.code pc = .ok (.if_icmp cd o, 3)) (hc : if_icmp.holds cd x y = false) (k : own_Go p e below Fe Q (T.setTop (mkF m pc' Ls (st)))) : own_Go p e below Fe Q (T.setTop (mkF m pc Ls (.int y :: .int x :: st))) := by
  subst hp
  exact own_st (fun _ hr => XS.icmpNo X.here hx rfl hd rfl hc hr) k
theorem own_ifnullNo (X : Stand p l e R s m args below meth c T locs cells slots) (hx : p.tables.exec = Jvm.exec) {o : Int} {b : Addr} (pc' : Nat) (hp : pc + 3 = pc') (hd : decode c.code pc = .ok (.ifnull o, 3))  (k : own_Go p e below Fe Q (T.setTop (mkF m pc' Ls (st)))) : own_Go p e below Fe Q (T.setTop (mkF m pc Ls (.ref b :: st))) := by
  subst hp
  exact own_st (fun _ hr => XS.ifnullNo X.here hx rfl hd rfl hr) k
theorem own_ifnonnullNo (X : Stand p l e R s m args below meth c T locs cells slots) (hx : p.tables.exec = Jvm.exec) {o : Int} (pc' : Nat) (hp : pc + 3 = pc') (hd : decode c.code pc = .ok (.ifnonnull o, 3))  (k : own_Go p e below Fe Q (T.setTop (mkF m pc' Ls (st)))) : own_Go p e below Fe Q (T.setTop (mkF m pc Ls (.null :: st))) := by
  subst hp
  exact own_st (fun _ hr => XS.ifnonnullNo X.here hx rfl hd rfl hr) k
theorem own_acmp (X : Stand p l e R s m args below meth c T locs cells slots) (hx : p.tables.exec = Jvm.exec) {cd : ACond} {x y : Value} {o : Int} (same : Bool) (pc' : Nat) (hd : decode c.code pc = .ok (.if_acmp cd o, 3)) (h1 : x.isRef = true) (h2 : y.isRef = true) (hq : decide (x = y) = same) (ho : 0 ≤ (pc : Int) + o) (hp : pc' = if acV cd same = true then ((pc : Int) + o).toNat else pc + 3) (k : own_Go p e below Fe Q (T.setTop (mkF m pc' Ls st))) : own_Go p e below Fe Q (T.setTop (mkF m pc Ls (y :: x :: st))) :=
  own_st (fun _ hr => Jvm.RoadKit.acmp (g := mkF m pc Ls (y :: x :: st)) X hx rfl h1 h2 (pc0 := pc) (pc' := pc') (same := same) rfl hd rfl hq ho hp hr) k
theorem own_tsw (X : Stand p l e R s m args below meth c T locs cells slots) (hx : p.tables.exec = Jvm.exec) {dflt low high : Int} {offs : Array Int} {len : Nat} {i : Int32} {o : Int} (pc' : Nat) (hd : decode c.code pc = .ok (.tableswitch dflt low high offs, len)) (hin : ¬ (i.toInt < low ∨ i.toInt > high)) (hoff : offs[(i.toInt - low).toNat]? = some o) (ho : 0 ≤ (pc : Int) + o) (hp : ((pc : Int) + o).toNat = pc') (k : own_Go p e below Fe Q (T.setTop (mkF m pc' Ls st))) : own_Go p e below Fe Q (T.setTop (mkF m pc Ls (.int i :: st))) :=
  own_st (fun _ hr => XS.tswIn X.here hx rfl rfl hd rfl hin hoff ho hp hr) k
theorem own_ldcI (X : Stand p l e R s m args below meth c T locs cells slots) (hx : p.tables.exec = Jvm.exec) (hZ : Z.Warmed39 s.vm) {own : String} {index : Nat} (hown : s.vm.findClass own = some m.cls) {z : Int32} (w : (Jvm.Cond.constant own index z).before a0 Z = true) (pc' : Nat) (hp : pc + 2 = pc') (hd : decode c.code pc = .ok (.ldc index, 2)) (k : own_Go p e below Fe Q (T.setTop (mkF m pc' Ls (.int z :: st)))) : own_Go p e below Fe Q (T.setTop (mkF m pc Ls st)) := by
  subst hp
  exact own_st (X.ldcInt hx hown (mvT hZ w) (g := mkF m pc Ls st) rfl hd) k
theorem own_ldcWI (X : Stand p l e R s m args below meth c T locs cells slots) (hx : p.tables.exec = Jvm.exec) (hZ : Z.Warmed39 s.vm) {own : String} {index : Nat} (hown : s.vm.findClass own = some m.cls) {z : Int32} (w : (Jvm.Cond.constant own index z).before a0 Z = true) (pc' : Nat) (hp : pc + 3 = pc') (hd : decode c.code pc = .ok (.ldc_w index, 3)) (k : own_Go p e below Fe Q (T.setTop (mkF m pc' Ls (.int z :: st)))) : own_Go p e below Fe Q (T.setTop (mkF m pc Ls st)) := by
  subst hp
  exact own_st (X.ldcwInt hx hown (mvT hZ w) (g := mkF m pc Ls st) rfl hd) k
theorem own_ldcJ (X : Stand p l e R s m args below meth c T locs cells slots) (hx : p.tables.exec = Jvm.exec) (hZ : Z.Warmed39 s.vm) {own : String} {index : Nat} (hown : s.vm.findClass own = some m.cls) {z : Int64} (w : (Jvm.Cond.constantLong own index z).before a0 Z = true) (pc' : Nat) (hp : pc + 3 = pc') (hd : decode c.code pc = .ok (.ldc2_w index, 3)) (k : own_Go p e below Fe Q (T.setTop (mkF m pc' Ls (.long z :: st)))) : own_Go p e below Fe Q (T.setTop (mkF m pc Ls st)) := by
  subst hp
  exact own_st (X.ldc2Long hx hown (mvT hZ w) (g := mkF m pc Ls st) rfl hd) k
theorem own_ldcD (X : Stand p l e R s m args below meth c T locs cells slots) (hx : p.tables.exec = Jvm.exec) (hZ : Z.Warmed39 s.vm) {own : String} {index : Nat} (hown : s.vm.findClass own = some m.cls) {z : UInt64} (w : (Jvm.Cond.constantDouble own index z).before a0 Z = true) (pc' : Nat) (hp : pc + 3 = pc') (hd : decode c.code pc = .ok (.ldc2_w index, 3)) (k : own_Go p e below Fe Q (T.setTop (mkF m pc' Ls (.double z :: st)))) : own_Go p e below Fe Q (T.setTop (mkF m pc Ls st)) := by
  subst hp
  exact own_st (X.ldc2DoubleC hx hown (mvT hZ w) (g := mkF m pc Ls st) rfl hd) k
theorem own_getS (X : Stand p l e R s m args below meth c T locs cells slots) (hx : p.tables.exec = Jvm.exec) (hZ : Z.Warmed39 s.vm) {own R0 O n d host : String} {index : Nat} (hown : s.vm.findClass own = some m.cls) (w : (Jvm.Cond.fieldLink own index R0 n d).before a0 Z = true ∨ (Jvm.Cond.fieldLinkNest own index R0 n d host).before a0 Z = true) (via : Via Z R0 O n d) (eT : T.heap = h) {v : Value} (F : Sta Z h O n d v) (pc' : Nat) (hp : pc + 3 = pc') (hd : decode c.code pc = .ok (.getstatic index, 3))
    (k : ∀ T', Stand p l e R s m args below meth c T' locs cells slots → T'.heap = h → own_Go p e below Fe Q (T'.setTop (mkF m pc' Ls (v :: st)))) : own_Go p e below Fe Q (T.setTop (mkF m pc Ls st)) := by
  subst hp
  obtain ⟨T', X', e', st'⟩ := getS2 X hx hZ hown w via eT F (g := mkF m pc Ls st) rfl hd
  exact own_st st' (k T' X' e')
theorem own_getF (X : Stand p l e R s m args below meth c T locs cells slots) (hx : p.tables.exec = Jvm.exec) (hZ : Z.Warmed39 s.vm) {own R0 O n d host : String} {index : Nat} (hown : s.vm.findClass own = some m.cls) (w : (Jvm.Cond.fieldLink own index R0 n d).before a0 Z = true ∨ (Jvm.Cond.fieldLinkNest own index R0 n d host).before a0 Z = true) (via : Via Z R0 O n d) (eT : T.heap = h) {a : Addr} {v : Value} (F : Fld Z h a O n d v) (pc' : Nat) (hp : pc + 3 = pc') (hd : decode c.code pc = .ok (.getfield index, 3))
    (k : ∀ T', Stand p l e R s m args below meth c T' locs cells slots → T'.heap = h → own_Go p e below Fe Q (T'.setTop (mkF m pc' Ls (v :: st)))) : own_Go p e below Fe Q (T.setTop (mkF m pc Ls (.ref a :: st))) := by
  subst hp
  obtain ⟨T', X', e', st'⟩ := getF X hx hZ hown w via eT F (g := mkF m pc Ls (.ref a :: st)) rfl rfl hd
  exact own_st st' (k T' X' e')
theorem own_putF (X : Stand p l e R s m args below meth c T locs cells slots) (hx : p.tables.exec = Jvm.exec) (hZ : Z.Warmed39 s.vm) {own R0 O n d host C : String} {index kk : Nat} {ty : FieldType} (hown : s.vm.findClass own = some m.cls) (w : (Jvm.Cond.fieldLink own index R0 n d).before a0 Z = true ∨ (Jvm.Cond.fieldLinkNest own index R0 n d host).before a0 Z = true) (via : Via Z R0 O n d) (eT : T.heap = h) {a : Addr} {v old : Value} (F : Fld Z h a O n d old) (E : Exa Z h a C)
    (L : (Jvm.Cond.lays C O n d).before a0 Z = true ∨ ((Jvm.Cond.laysFinal C O n d).before a0 Z = true ∧ own = O ∧ meth.name = "<init>")) (wi : (Jvm.Cond.instantiable C kk).before a0 Z = true) (hty : parseFieldDescriptor d = some ty) (hn : narrow ty v = v) (hf : Jvm.fits ty v = true) (pc' : Nat) (hp : pc + 3 = pc') (hd : decode c.code pc = .ok (.putfield index, 3))
    (k : ∀ T' h', Stand p l e R s m args below meth c T' (locs ++ [⟨a, Jvm.RoadKit.slotOf Z O n d⟩]) cells slots → T'.heap = h' → Wr h h' a (Jvm.RoadKit.slotOf Z O n d) v → own_Go p e below Fe Q (T'.setTop (mkF m pc' Ls st))) : own_Go p e below Fe Q (T.setTop (mkF m pc Ls (v :: .ref a :: st))) := by
  subst hp
  obtain ⟨T', h', X', e', W', st'⟩ := putF X hx hZ hown w via eT F E L wi hty hn hf (g := mkF m pc Ls (v :: .ref a :: st)) rfl rfl hd
  exact own_st st' (k T' h' X' e' W')
theorem own_putFN (X : Stand p l e R s m args below meth c T locs cells slots) (hx : p.tables.exec = Jvm.exec) (hZ : Z.Warmed39 s.vm) {own R0 O n d C : String} {index kk : Nat} {ty : FieldType} (hown : s.vm.findClass own = some m.cls) (w : (Jvm.Cond.fieldLink own index R0 n d).before a0 Z = true) (via : Via Z R0 O n d) (eT : T.heap = h) {a : Addr} {v v' old : Value} (F : Fld Z h a O n d old) (E : Exa Z h a C)
    (L : (Jvm.Cond.lays C O n d).before a0 Z = true ∨ ((Jvm.Cond.laysFinal C O n d).before a0 Z = true ∧ own = O ∧ meth.name = "<init>")) (wi : (Jvm.Cond.instantiable C kk).before a0 Z = true) (hty : parseFieldDescriptor d = some ty) (hn : narrow ty v = v') (hf : Jvm.fits ty v' = true) (pc' : Nat) (hp : pc + 3 = pc') (hd : decode c.code pc = .ok (.putfield index, 3))
    (k : ∀ T' h', Stand p l e R s m args below meth c T' (locs ++ [⟨a, Jvm.RoadKit.slotOf Z O n d⟩]) cells slots → T'.heap = h' → Wr h h' a (Jvm.RoadKit.slotOf Z O n d) v' → own_Go p e below Fe Q (T'.setTop (mkF m pc' Ls st))) : own_Go p e below Fe Q (T.setTop (mkF m pc Ls (v :: .ref a :: st))) := by
  subst hp
  obtain ⟨T', h', X', e', W', st'⟩ := putFN X hx hZ hown w via eT F E L wi hty hn hf (g := mkF m pc Ls (v :: .ref a :: st)) rfl rfl hd
  exact own_st st' (k T' h' X' e' W')
theorem own_new (X : Stand p l e R s m args below meth c T locs cells slots) (hx : p.tables.exec = Jvm.exec) (hZ : Z.Warmed39 s.vm) {own C : String} {index n : Nat} (hown : s.vm.findClass own = some m.cls) (w : (Jvm.Cond.classLink own index C).before a0 Z = true) (wi : (Jvm.Cond.instantiable C n).before a0 Z = true) (wz : (Jvm.Cond.initialized C).before a0 Z = true) (eT : T.heap = h) (pc' : Nat) (hp : pc + 3 = pc') (hd : decode c.code pc = .ok (.new index, 3)) (hc : cells + 1 ≤ R.cells) (hl : slots + n ≤ R.slots)
    (k : ∀ T' h' b, b = h.size → Stand p l e R s m args below meth c T' locs (cells + 1) (slots + n) → T'.heap = h' → Ext h h' → Exa Z h' b C → (∀ {O nm d : String} {ty : FieldType}, Laid Z a0 C O nm d → parseFieldDescriptor d = some ty → Fld Z h' b O nm d (defaultValue ty)) → own_Go p e below Fe Q (T'.setTop (mkF m pc' Ls (.ref b :: st)))) : own_Go p e below Fe Q (T.setTop (mkF m pc Ls st)) := by
  subst hp
  obtain ⟨T', h', X', e', E', A', D', -, st'⟩ := newO X hx hZ hown w wi wz eT (g := mkF m pc Ls st) rfl hd hc hl
  exact own_st st' (k T' h' _ rfl X' e' E' A' D')
theorem own_newA (X : Stand p l e R s m args below meth c T locs cells slots) (hx : p.tables.exec = Jvm.exec) (hZ : Z.Warmed39 s.vm) {aty : ArrayType} (w : (Jvm.Cond.arrayClass (newarray.typeOf aty)).before a0 Z = true) (eT : T.heap = h) {n : Int32} (pc' : Nat) (hp : pc + 2 = pc') (hd : decode c.code pc = .ok (.newarray aty, 2)) (hn : ¬ n < 0) (cap : Nat) (hcap : n.toNatClampNeg ≤ cap) (hb : cap * 8 ≤ 536870912) (hc : cells + 1 ≤ R.cells) (hl : slots + cap ≤ R.slots) (ad : String) (had : "[" ++ (newarray.typeOf aty).toString = ad)
    (k : ∀ T' h' cA b, b = h.size → Stand p l e R s m args below meth c T' locs (cells + 1) (slots + cap) → T'.heap = h' → Ext h h' → Arr Z h' b (newA cA (newarray.typeOf aty) n) (newarray.typeOf aty) → Exa Z h' b ad → own_Go p e below Fe Q (T'.setTop (mkF m pc' Ls (.ref b :: st)))) : own_Go p e below Fe Q (T.setTop (mkF m pc Ls (.int n :: st))) := by
  subst hp
  obtain ⟨T', h', cA, X', e', E', A', C', st'⟩ := newPE X hx hZ w eT (g := mkF m pc Ls (.int n :: st)) rfl hd rfl hn hcap hb hc hl had
  exact own_st st' (k T' h' cA _ rfl X' e' E' A' C')
theorem own_stI (X : Stand p l e R s m args below meth c T locs cells slots) (hx : p.tables.exec = Jvm.exec) (hZ : Z.Warmed39 s.vm) (eT : T.heap = h) {a : Addr} {kA : ClassId} {n : Int32} {vs : List Value} {dv : Value} (F : Arv Z h a kA .int n vs dv) {j : Int32} {x : Int32} (hj : ¬ j < 0 ∧ j < n) (i : Nat) (hi : j.toNatClampNeg = i) (hl : i < vs.length) (vs' : List Value) (hvs : vs.set i (.int x) = vs') (pc' : Nat) (hp : pc + 1 = pc') (hd : decode c.code pc = .ok (.iastore, 1))
    (k : ∀ T' h', Stand p l e R s m args below meth c T' (locs ++ [⟨a, j.toNatClampNeg⟩]) cells slots → T'.heap = h' → Wr h h' a j.toNatClampNeg (.int x) → Arv Z h' a kA .int n vs' dv → own_Go p e below Fe Q (T'.setTop (mkF m pc' Ls st))) : own_Go p e below Fe Q (T.setTop (mkF m pc Ls (.int x :: .int j :: .ref a :: st))) := by
  subst hp; subst hvs
  obtain ⟨cl, Ar, q, S, N1, H, G⟩ := F
  have hin := inb_of S hj
  obtain ⟨T', h', X', e', W', st'⟩ := stI X hx hZ eT Ar (j := j) hin (g := mkF m pc Ls (.int x :: .int j :: .ref a :: st)) rfl rfl hd
  exact own_st st' (k T' h' X' e' W' (Arv.set Ar q S N1 H G rfl W' i hi hl))
theorem own_stJ (X : Stand p l e R s m args below meth c T locs cells slots) (hx : p.tables.exec = Jvm.exec) (hZ : Z.Warmed39 s.vm) (eT : T.heap = h) {a : Addr} {kA : ClassId} {n : Int32} {vs : List Value} {dv : Value} (F : Arv Z h a kA .long n vs dv) {j : Int32} {x : Int64} (hj : ¬ j < 0 ∧ j < n) (i : Nat) (hi : j.toNatClampNeg = i) (hl : i < vs.length) (vs' : List Value) (hvs : vs.set i (.long x) = vs') (pc' : Nat) (hp : pc + 1 = pc') (hd : decode c.code pc = .ok (.lastore, 1))
    (k : ∀ T' h', Stand p l e R s m args below meth c T' (locs ++ [⟨a, j.toNatClampNeg⟩]) cells slots → T'.heap = h' → Wr h h' a j.toNatClampNeg (.long x) → Arv Z h' a kA .long n vs' dv → own_Go p e below Fe Q (T'.setTop (mkF m pc' Ls st))) : own_Go p e below Fe Q (T.setTop (mkF m pc Ls (.long x :: .int j :: .ref a :: st))) := by
  subst hp; subst hvs
  obtain ⟨cl, Ar, q, S, N1, H, G⟩ := F
  have hin := inb_of S hj
  obtain ⟨T', h', X', e', W', st'⟩ := stJ X hx hZ eT Ar (j := j) hin (g := mkF m pc Ls (.long x :: .int j :: .ref a :: st)) rfl rfl hd
  exact own_st st' (k T' h' X' e' W' (Arv.set Ar q S N1 H G rfl W' i hi hl))
theorem own_stD (X : Stand p l e R s m args below meth c T locs cells slots) (hx : p.tables.exec = Jvm.exec) (hZ : Z.Warmed39 s.vm) (eT : T.heap = h) {a : Addr} {kA : ClassId} {n : Int32} {vs : List Value} {dv : Value} (F : Arv Z h a kA .double n vs dv) {j : Int32} {x : UInt64} (hj : ¬ j < 0 ∧ j < n) (i : Nat) (hi : j.toNatClampNeg = i) (hl : i < vs.length) (vs' : List Value) (hvs : vs.set i (.double x) = vs') (pc' : Nat) (hp : pc + 1 = pc') (hd : decode c.code pc = .ok (.dastore, 1))
    (k : ∀ T' h', Stand p l e R s m args below meth c T' (locs ++ [⟨a, j.toNatClampNeg⟩]) cells slots → T'.heap = h' → Wr h h' a j.toNatClampNeg (.double x) → Arv Z h' a kA .double n vs' dv → own_Go p e below Fe Q (T'.setTop (mkF m pc' Ls st))) : own_Go p e below Fe Q (T.setTop (mkF m pc Ls (.double x :: .int j :: .ref a :: st))) := by
  subst hp; subst hvs
  obtain ⟨cl, Ar, q, S, N1, H, G⟩ := F
  have hin := inb_of S hj
  obtain ⟨T', h', X', e', W', st'⟩ := stD X hx hZ eT Ar (j := j) hin (g := mkF m pc Ls (.double x :: .int j :: .ref a :: st)) rfl rfl hd
  exact own_st st' (k T' h' X' e' W' (Arv.set Ar q S N1 H G rfl W' i hi hl))
theorem own_stB (X : Stand p l e R s m args below meth c T locs cells slots) (hx : p.tables.exec = Jvm.exec) (hZ : Z.Warmed39 s.vm) (eT : T.heap = h) {a : Addr} {kA : ClassId} {n : Int32} {vs : List Value} {dv : Value} (F : Arv Z h a kA .byte n vs dv) {j : Int32} {x : Int32} (hj : ¬ j < 0 ∧ j < n) (i : Nat) (hi : j.toNatClampNeg = i) (hl : i < vs.length) (vs' : List Value) (hvs : vs.set i (.int x.toInt8.toInt32) = vs') (pc' : Nat) (hp : pc + 1 = pc') (hd : decode c.code pc = .ok (.bastore, 1))
    (k : ∀ T' h', Stand p l e R s m args below meth c T' (locs ++ [⟨a, j.toNatClampNeg⟩]) cells slots → T'.heap = h' → Wr h h' a j.toNatClampNeg (.int x.toInt8.toInt32) → Arv Z h' a kA .byte n vs' dv → own_Go p e below Fe Q (T'.setTop (mkF m pc' Ls st))) : own_Go p e below Fe Q (T.setTop (mkF m pc Ls (.int x :: .int j :: .ref a :: st))) := by
  subst hp; subst hvs
  obtain ⟨cl, Ar, q, S, N1, H, G⟩ := F
  have hin := inb_of S hj
  obtain ⟨T', h', X', e', W', st'⟩ := stB X hx hZ eT Ar (j := j) hin (g := mkF m pc Ls (.int x :: .int j :: .ref a :: st)) rfl rfl hd
  exact own_st st' (k T' h' X' e' W' (Arv.set Ar q S N1 H G (fits_nar_byte x) W' i hi hl))
theorem own_stZ (X : Stand p l e R s m args below meth c T locs cells slots) (hx : p.tables.exec = Jvm.exec) (hZ : Z.Warmed39 s.vm) (eT : T.heap = h) {a : Addr} {kA : ClassId} {n : Int32} {vs : List Value} {dv : Value} (F : Arv Z h a kA .boolean n vs dv) {j : Int32} {x : Int32} (hj : ¬ j < 0 ∧ j < n) (i : Nat) (hi : j.toNatClampNeg = i) (hl : i < vs.length) (vs' : List Value) (hvs : vs.set i (.int (nar .boolean x)) = vs') (pc' : Nat) (hp : pc + 1 = pc') (hd : decode c.code pc = .ok (.bastore, 1))
    (k : ∀ T' h', Stand p l e R s m args below meth c T' (locs ++ [⟨a, j.toNatClampNeg⟩]) cells slots → T'.heap = h' → Wr h h' a j.toNatClampNeg (.int (nar .boolean x)) → Arv Z h' a kA .boolean n vs' dv → own_Go p e below Fe Q (T'.setTop (mkF m pc' Ls st))) : own_Go p e below Fe Q (T.setTop (mkF m pc Ls (.int x :: .int j :: .ref a :: st))) := by
  subst hp; subst hvs
  obtain ⟨cl, Ar, q, S, N1, H, G⟩ := F
  have hin := inb_of S hj
  obtain ⟨T', h', X', e', W', st'⟩ := stZ X hx hZ eT Ar (j := j) hin (g := mkF m pc Ls (.int x :: .int j :: .ref a :: st)) rfl rfl hd
  exact own_st st' (k T' h' X' e' W' (Arv.set Ar q S N1 H G (fits_nar_bool x) W' i hi hl))
theorem own_stC (X : Stand p l e R s m args below meth c T locs cells slots) (hx : p.tables.exec = Jvm.exec) (hZ : Z.Warmed39 s.vm) (eT : T.heap = h) {a : Addr} {kA : ClassId} {n : Int32} {vs : List Value} {dv : Value} (F : Arv Z h a kA .char n vs dv) {j : Int32} {x : Int32} (hj : ¬ j < 0 ∧ j < n) (i : Nat) (hi : j.toNatClampNeg = i) (hl : i < vs.length) (vs' : List Value) (hvs : vs.set i (.int (nar .char x)) = vs') (pc' : Nat) (hp : pc + 1 = pc') (hd : decode c.code pc = .ok (.castore, 1))
    (k : ∀ T' h', Stand p l e R s m args below meth c T' (locs ++ [⟨a, j.toNatClampNeg⟩]) cells slots → T'.heap = h' → Wr h h' a j.toNatClampNeg (.int (nar .char x)) → Arv Z h' a kA .char n vs' dv → own_Go p e below Fe Q (T'.setTop (mkF m pc' Ls st))) : own_Go p e below Fe Q (T.setTop (mkF m pc Ls (.int x :: .int j :: .ref a :: st))) := by
  subst hp; subst hvs
  obtain ⟨cl, Ar, q, S, N1, H, G⟩ := F
  have hin := inb_of S hj
  obtain ⟨T', h', X', e', W', st'⟩ := stC X hx hZ eT Ar (j := j) hin (g := mkF m pc Ls (.int x :: .int j :: .ref a :: st)) rfl rfl hd
  exact own_st st' (k T' h' X' e' W' (Arv.set Ar q S N1 H G (fits_nar_char x) W' i hi hl))
theorem own_ldI (X : Stand p l e R s m args below meth c T locs cells slots) (hx : p.tables.exec = Jvm.exec) (hZ : Z.Warmed39 s.vm) (eT : T.heap = h) {a : Addr} {kA : ClassId} {n : Int32} {vs : List Value} {dv : Value} (F : Arv Z h a kA .int n vs dv) {j : Int32} (hj : ¬ j < 0 ∧ j < n) (x : Int32) (hv : vs.getD j.toNatClampNeg dv = (.int x)) (pc' : Nat) (hp : pc + 1 = pc') (hd : decode c.code pc = .ok (.iaload, 1))
    (k : own_Go p e below Fe Q (T.setTop (mkF m pc' Ls (.int x :: st)))) : own_Go p e below Fe Q (T.setTop (mkF m pc Ls (.int j :: .ref a :: st))) := by
  subst hp
  obtain ⟨cl, Ar, q, S, N1, H, G⟩ := F
  have hin := inb_of S hj
  exact own_st (X.iaload hx (j := j) (v := .int x) (by rw [eT]; exact Ar.1) (State.isArrayOf_alike hZ.alike Ar.2.1) Ar.2.2 hin (Has.at H hin hv) (g := mkF m pc Ls (.int j :: .ref a :: st)) rfl rfl hd) k
theorem own_ldD (X : Stand p l e R s m args below meth c T locs cells slots) (hx : p.tables.exec = Jvm.exec) (hZ : Z.Warmed39 s.vm) (eT : T.heap = h) {a : Addr} {kA : ClassId} {n : Int32} {vs : List Value} {dv : Value} (F : Arv Z h a kA .double n vs dv) {j : Int32} (hj : ¬ j < 0 ∧ j < n) (x : UInt64) (hv : vs.getD j.toNatClampNeg dv = (.double x)) (pc' : Nat) (hp : pc + 1 = pc') (hd : decode c.code pc = .ok (.daload, 1))
    (k : own_Go p e below Fe Q (T.setTop (mkF m pc' Ls (.double x :: st)))) : own_Go p e below Fe Q (T.setTop (mkF m pc Ls (.int j :: .ref a :: st))) := by
  subst hp
  obtain ⟨cl, Ar, q, S, N1, H, G⟩ := F
  have hin := inb_of S hj
  exact own_st (X.daload hx (j := j) (v := .double x) (by rw [eT]; exact Ar.1) (State.isArrayOf_alike hZ.alike Ar.2.1) Ar.2.2 hin (Has.at H hin hv) (g := mkF m pc Ls (.int j :: .ref a :: st)) rfl rfl hd) k
theorem own_ldJ (X : Stand p l e R s m args below meth c T locs cells slots) (hx : p.tables.exec = Jvm.exec) (hZ : Z.Warmed39 s.vm) (eT : T.heap = h) {a : Addr} {kA : ClassId} {n : Int32} {vs : List Value} {dv : Value} (F : Arv Z h a kA .long n vs dv) {j : Int32} (hj : ¬ j < 0 ∧ j < n) (x : Int64) (hv : vs.getD j.toNatClampNeg dv = (.long x)) (pc' : Nat) (hp : pc + 1 = pc') (hd : decode c.code pc = .ok (.laload, 1))
    (k : own_Go p e below Fe Q (T.setTop (mkF m pc' Ls (.long x :: st)))) : own_Go p e below Fe Q (T.setTop (mkF m pc Ls (.int j :: .ref a :: st))) := by
  subst hp
  obtain ⟨cl, Ar, q, S, N1, H, G⟩ := F
  have hin := inb_of S hj
  exact own_st (X.laload hx (j := j) (v := .long x) (by rw [eT]; exact Ar.1) (State.isArrayOf_alike hZ.alike Ar.2.1) Ar.2.2 hin (Has.at H hin hv) (g := mkF m pc Ls (.int j :: .ref a :: st)) rfl rfl hd) k
theorem own_len (X : Stand p l e R s m args below meth c T locs cells slots) (hx : p.tables.exec = Jvm.exec) (hZ : Z.Warmed39 s.vm) (eT : T.heap = h) {a : Addr} {kA : ClassId} {ty : FieldType} {n : Int32} {vs : List Value} {dv : Value} (F : Arv Z h a kA ty n vs dv) (pc' : Nat) (hp : pc + 1 = pc') (hd : decode c.code pc = .ok (.arraylength, 1))
    (k : own_Go p e below Fe Q (T.setTop (mkF m pc' Ls (.int n :: st)))) : own_Go p e below Fe Q (T.setTop (mkF m pc Ls (.ref a :: st))) := by
  subst hp
  obtain ⟨cl, Ar, q, S, N1, H, G⟩ := F
  refine own_st (X.arraylength hx (by rw [eT]; exact Ar.1) (State.isArrayOf_alike hZ.alike Ar.2.1) (g := mkF m pc Ls (.ref a :: st)) rfl rfl hd) ?_
  rw [len_of S N1]
  exact k
theorem own_initO (X : Stand p l e R s m args below meth c T locs cells slots) (hx : p.tables.exec = Jvm.exec) (hZ : Z.Warmed39 s.vm) {own : String} {idx : Nat} (hown : s.vm.findClass own = some m.cls) (w1 : (Jvm.Cond.methodLink own idx Lib.objectInit).before a0 Z = true) (w2 : (Jvm.Cond.instanceMethod Lib.objectInit).before a0 Z = true) (w3 : (Jvm.Cond.code Lib.objectInit ⟨#[0xb1]⟩ 1 none).before a0 Z = true) (eT : T.heap = h) (hsize : Ls.size = c.maxLocals) {a : Addr} (pc' : Nat) (hp : pc + 3 = pc') (hd : decode c.code pc = .ok (.invokespecial idx, 3)) (hf : 1 ≤ R.frames) (W : Nat) (hW : 2 * 0 + (st.map fun v => v.category).sum ≤ W) (hl : W + 12 ≤ R.locals)
    (k : ∀ T', Stand p l e R s m args below meth c T' locs cells slots → T'.heap = h → own_Go p e below Fe Q (T'.setTop (mkF m pc' Ls st))) : own_Go p e below Fe Q (T.setTop (mkF m pc Ls (.ref a :: st))) := by
  subst hp
  obtain ⟨T', X', e', st'⟩ := initO X hx hZ hown w1 w2 w3 eT (g := mkF m pc Ls (.ref a :: st)) rfl hsize rfl hd hf hW hl
  exact own_st st' (k T' X' e')
theorem own_callS (X : Stand p l e R s m args below meth c T locs cells slots) (hx : p.tables.exec = Jvm.exec) (hZ : Z.Warmed39 s.vm) {own : String} {index : Nat} {y : MethodName} (hown : s.vm.findClass own = some m.cls) (w1 : (Jvm.Cond.methodLink own index y).before a0 Z = true) (w2 : (Jvm.Cond.static y).before a0 Z = true) (hy : y.cls ≠ "java/lang/invoke/MethodHandle" ∧ y.cls ≠ "java/lang/invoke/VarHandle") {bytes : ByteArray} {maxL : Nat} {ret : Option FieldType} {rm : Room} {as' : Array Value} {Q' : Option Value → Heap → List Loc → Prop} (hM : MetFree l y (head1 [Jvm.Cond.code y bytes maxL ret] rm) (fun a U => a = as' ∧ Z.Warmed39 U.vm ∧ U.heap = h) (fun _ _ _ _ _ => True) (fun _ U o U' => ∃ v L, o = .returned v ∧ Q' v U'.heap L ∧ FrameEnd U o U' L rm.cells rm.slots)) (wc : (Jvm.Cond.code y bytes maxL ret).before a0 Z = true) (wz : (Jvm.Cond.initialized y.cls).before a0 Z = true) (hfr : rm.frames + 1 ≤ R.frames) (eT : T.heap = h) (hsize : Ls.size = c.maxLocals) (argsL : List Value) {rest : List Value} (W : Nat) (hlo : W + (maxL + 11) + rm.locals ≤ R.locals) (hW : 2 * 0 + (rest.map fun v => v.category).sum ≤ W) (hcells : cells + rm.cells ≤ R.cells) (hslots : slots + rm.slots ≤ R.slots) (hlen : ∀ sig, parseMethodDescriptor y.desc = some sig → argsL.length = sig.parameters.length) (hst : st = argsL.reverse ++ rest) (has : argsL.toArray = as') (pc' : Nat) (hp : pc + 3 = pc') (hd : decode c.code pc = .ok (.invokestatic index, 3))
    (k : ∀ v T' Lc, Stand p l e R s m args below meth c T' (locs ++ Lc) (cells + rm.cells) (slots + rm.slots) → Q' v T'.heap Lc → own_Go p e below Fe Q (T'.setTop (mkF m pc' Ls (v.toList ++ rest)))) : own_Go p e below Fe Q (T.setTop (mkF m pc Ls st)) := by
  subst hp
  obtain ⟨v, _, ⟨T', L', k', n'⟩, -, X', ⟨Lc, hQ, l1, l2, l3⟩, st'⟩ := Jvm.LawKit.callS X hx (y := y) hown (mvT hZ w1) (mvT hZ w2) (mvT hZ wz) (mvT hZ wc) hy (backOf (W := W) hM hZ wc wz hfr hlo) (g := mkF m pc Ls st) rfl hsize (argsL := argsL) (rest := rest) hlen hst hW hd (fun _ _ => ⟨has, eT, hcells, hslots⟩)
  dsimp only [Pt.U, Pt.locs, Pt.cells, Pt.slots] at X' l1 l2 l3 st' hQ
  subst l1 l2 l3
  exact own_st st' (k v T' Lc X' hQ)
theorem own_special (X : Stand p l e R s m args below meth c T locs cells slots) (hx : p.tables.exec = Jvm.exec) (hZ : Z.Warmed39 s.vm) {own : String} {index : Nat} {y : MethodName} (hown : s.vm.findClass own = some m.cls) (hy1 : y.name = "<init>") (w1 : (Jvm.Cond.methodLink own index y).before a0 Z = true) (w2 : (Jvm.Cond.instanceMethod y).before a0 Z = true) {a : Addr} (hy : y.cls ≠ "java/lang/invoke/MethodHandle" ∧ y.cls ≠ "java/lang/invoke/VarHandle") {bytes : ByteArray} {maxL : Nat} {ret : Option FieldType} {rm : Room} {as' : Array Value} {Q' : Option Value → Heap → List Loc → Prop} (hret : ret = none) (hM : MetFree l y (head1 [Jvm.Cond.code y bytes maxL ret] rm) (fun a U => a = as' ∧ Z.Warmed39 U.vm ∧ U.heap = h) (fun _ _ _ _ _ => True) (fun _ U o U' => ∃ v L, o = .returned v ∧ Q' v U'.heap L ∧ FrameEnd U o U' L rm.cells rm.slots)) (wc : (Jvm.Cond.code y bytes maxL ret).before a0 Z = true) (wz : (Jvm.Cond.initialized y.cls).before a0 Z = true) (hfr : rm.frames + 1 ≤ R.frames) (eT : T.heap = h) (hsize : Ls.size = c.maxLocals) (argsL : List Value) {rest : List Value} (W : Nat) (hlo : W + (maxL + 11) + rm.locals ≤ R.locals) (hW : 2 * 0 + (rest.map fun v => v.category).sum ≤ W) (hcells : cells + rm.cells ≤ R.cells) (hslots : slots + rm.slots ≤ R.slots) (hlen : ∀ sig, parseMethodDescriptor y.desc = some sig → argsL.length = sig.parameters.length) (hst : st = argsL.reverse ++ .ref a :: rest) (has : (.ref a :: argsL).toArray = as') (pc' : Nat) (hp : pc + 3 = pc') (hd : decode c.code pc = .ok (.invokespecial index, 3))
    (k : ∀ v T' Lc, Stand p l e R s m args below meth c T' (locs ++ Lc) (cells + rm.cells) (slots + rm.slots) → Q' v T'.heap Lc → own_Go p e below Fe Q (T'.setTop (mkF m pc' Ls (v.toList ++ rest)))) : own_Go p e below Fe Q (T.setTop (mkF m pc Ls st)) := by
  subst hp
  obtain ⟨v, _, ⟨T', L', k', n'⟩, -, X', ⟨Lc, hQ, l1, l2, l3⟩, st'⟩ := X.specialBack hx (y := y) hy1 hown (mvT hZ w1) (mvT hZ w2) (mvT hZ (hret ▸ wc)) hy (backOf (W := W) hM hZ wc wz hfr hlo) (g := mkF m pc Ls st) rfl hsize (Steps.refl _) (a := a) (argsL := argsL) (rest := rest) hlen hst hW hd (fun _ _ => ⟨has, eT, hcells, hslots⟩)
  dsimp only [Pt.U, Pt.locs, Pt.cells, Pt.slots] at X' l1 l2 l3 st' hQ
  subst l1 l2 l3
  exact own_tr st' (k v T' Lc X' hQ)
theorem own_virtual (X : Stand p l e R s m args below meth c T locs cells slots) (hx : p.tables.exec = Jvm.exec) (hZ : Z.Warmed39 s.vm) {own : String} {index : Nat} {C : String} {y z : MethodName} (hown : s.vm.findClass own = some m.cls) (w1 : (Jvm.Cond.methodLink own index y).before a0 Z = true) (w2 : (Jvm.Cond.declares y).before a0 Z = true) (w3 : (Jvm.Cond.selects C y z).before a0 Z = true) (w4 : (Jvm.Cond.instanceMethod z).before a0 Z = true) (hyz : y = z) {a : Addr} (E : Exa Z h a C) (hy : y.cls ≠ "java/lang/invoke/MethodHandle" ∧ y.cls ≠ "java/lang/invoke/VarHandle") {bytes : ByteArray} {maxL : Nat} {ret : Option FieldType} {rm : Room} {as' : Array Value} {Q' : Option Value → Heap → List Loc → Prop} (hM : MetFree l z (head1 [Jvm.Cond.code z bytes maxL ret] rm) (fun a U => a = as' ∧ Z.Warmed39 U.vm ∧ U.heap = h) (fun _ _ _ _ _ => True) (fun _ U o U' => ∃ v L, o = .returned v ∧ Q' v U'.heap L ∧ FrameEnd U o U' L rm.cells rm.slots)) (wc : (Jvm.Cond.code z bytes maxL ret).before a0 Z = true) (wz : (Jvm.Cond.initialized z.cls).before a0 Z = true) (hfr : rm.frames + 1 ≤ R.frames) (eT : T.heap = h) (hsize : Ls.size = c.maxLocals) (argsL : List Value) {rest : List Value} (W : Nat) (hlo : W + (maxL + 11) + rm.locals ≤ R.locals) (hW : 2 * 0 + (rest.map fun v => v.category).sum ≤ W) (hcells : cells + rm.cells ≤ R.cells) (hslots : slots + rm.slots ≤ R.slots) (hlen : ∀ sig, parseMethodDescriptor y.desc = some sig → argsL.length = sig.parameters.length) (hst : st = argsL.reverse ++ .ref a :: rest) (has : (.ref a :: argsL).toArray = as') (pc' : Nat) (hp : pc + 3 = pc') (hd : decode c.code pc = .ok (.invokevirtual index, 3))
    (k : ∀ v T' Lc, Stand p l e R s m args below meth c T' (locs ++ Lc) (cells + rm.cells) (slots + rm.slots) → Q' v T'.heap Lc → own_Go p e below Fe Q (T'.setTop (mkF m pc' Ls (v.toList ++ rest)))) : own_Go p e below Fe Q (T.setTop (mkF m pc Ls st)) := by
  subst hp
  obtain ⟨cB, kB, qa, qb, qc⟩ := isOf hZ eT E
  obtain ⟨v, _, ⟨T', L', k', n'⟩, -, X', ⟨Lc, hQ, l1, l2, l3⟩, st'⟩ := X.virtualBack hx (y := y) (z := z) hown (mvT hZ w1) (mvT hZ w2) (hyz ▸ notFace_of_selects (args := #[]) (mvT hZ (hyz ▸ w3 : (Jvm.Cond.selects C z z).before a0 Z = true))) (mvT hZ w3) (mvT hZ w4) hy (backOf (W := W) hM hZ wc wz hfr hlo) qa qc (g := mkF m pc Ls st) rfl hsize (Steps.refl _) (argsL := argsL) (rest := rest) hlen hst hW hd (fun _ _ => ⟨has, eT, hcells, hslots⟩)
  dsimp only [Pt.U, Pt.locs, Pt.cells, Pt.slots] at X' l1 l2 l3 st' hQ
  subst l1 l2 l3
  exact own_tr st' (k v T' Lc X' hQ)
theorem own_virtualUp (X : Stand p l e R s m args below meth c T locs cells slots) (hx : p.tables.exec = Jvm.exec) (hZ : Z.Warmed39 s.vm) {own : String} {index : Nat} {C owner : String} {x y : MethodName} (hown : s.vm.findClass own = some m.cls) (w1 : (Jvm.Cond.methodLink own index x).before a0 Z = true) (w2 : (Jvm.Cond.sameMethod x.cls owner x.name x.desc).before a0 Z = true) (w2' : (Jvm.Cond.declares ⟨owner, x.name, x.desc⟩).before a0 Z = true) (w3 : (Jvm.Cond.selects C x y).before a0 Z = true) (w4 : (Jvm.Cond.instanceMethod y).before a0 Z = true) {a : Addr} (E : Exa Z h a C) (ho : owner ≠ "java/lang/invoke/MethodHandle" ∧ owner ≠ "java/lang/invoke/VarHandle") {bytes : ByteArray} {maxL : Nat} {ret : Option FieldType} {rm : Room} {as' : Array Value} {Q' : Option Value → Heap → List Loc → Prop} (hM : MetFree l y (head1 [Jvm.Cond.code y bytes maxL ret] rm) (fun a U => a = as' ∧ Z.Warmed39 U.vm ∧ U.heap = h) (fun _ _ _ _ _ => True) (fun _ U o U' => ∃ v L, o = .returned v ∧ Q' v U'.heap L ∧ FrameEnd U o U' L rm.cells rm.slots)) (wc : (Jvm.Cond.code y bytes maxL ret).before a0 Z = true) (wz : (Jvm.Cond.initialized y.cls).before a0 Z = true) (hfr : rm.frames + 1 ≤ R.frames) (eT : T.heap = h) (hsize : Ls.size = c.maxLocals) (argsL : List Value) {rest : List Value} (W : Nat) (hlo : W + (maxL + 11) + rm.locals ≤ R.locals) (hW : 2 * 0 + (rest.map fun v => v.category).sum ≤ W) (hcells : cells + rm.cells ≤ R.cells) (hslots : slots + rm.slots ≤ R.slots) (hlen : ∀ sig, parseMethodDescriptor x.desc = some sig → argsL.length = sig.parameters.length) (hst : st = argsL.reverse ++ .ref a :: rest) (has : (.ref a :: argsL).toArray = as') (pc' : Nat) (hp : pc + 3 = pc') (hd : decode c.code pc = .ok (.invokevirtual index, 3))
    (k : ∀ v T' Lc, Stand p l e R s m args below meth c T' (locs ++ Lc) (cells + rm.cells) (slots + rm.slots) → Q' v T'.heap Lc → own_Go p e below Fe Q (T'.setTop (mkF m pc' Ls (v.toList ++ rest)))) : own_Go p e below Fe Q (T.setTop (mkF m pc Ls st)) := by
  subst hp
  obtain ⟨cB, kB, qa, qb, qc⟩ := isOf hZ eT E
  obtain ⟨v, _, ⟨T', L', k', n'⟩, -, X', ⟨Lc, hQ, l1, l2, l3⟩, st'⟩ := X.virtualBackUp hx (x := x) (y := y) (owner := owner) hown (mvT hZ w1) (mvT hZ w2) (mvT hZ w2') ho (mvT hZ w3) (mvT hZ w4) (backOf (W := W) hM hZ wc wz hfr hlo) qa qc (g := mkF m pc Ls st) rfl hsize (Steps.refl _) (argsL := argsL) (rest := rest) hlen hst hW hd (fun _ _ => ⟨has, eT, hcells, hslots⟩)
  dsimp only [Pt.U, Pt.locs, Pt.cells, Pt.slots] at X' l1 l2 l3 st' hQ
  subst l1 l2 l3
  exact own_tr st' (k v T' Lc X' hQ)
theorem own_private (X : Stand p l e R s m args below meth c T locs cells slots) (hx : p.tables.exec = Jvm.exec) (hZ : Z.Warmed39 s.vm) {own : String} {index : Nat} {y z : MethodName} (hown : s.vm.findClass own = some m.cls) (w1 : (Jvm.Cond.methodLink own index y).before a0 Z = true) (w2 : (Jvm.Cond.instanceMethod y).before a0 Z = true) (hz : z.cls = y.cls) (w3 : (Jvm.Cond.selects z.cls z z).before a0 Z = true) (w4 : (Jvm.Cond.privateMethod y).before a0 Z = true) {a : Addr} (E : Exa Z h a y.cls) (hy : y.cls ≠ "java/lang/invoke/MethodHandle" ∧ y.cls ≠ "java/lang/invoke/VarHandle") {bytes : ByteArray} {maxL : Nat} {ret : Option FieldType} {rm : Room} {as' : Array Value} {Q' : Option Value → Heap → List Loc → Prop} (hM : MetFree l y (head1 [Jvm.Cond.code y bytes maxL ret] rm) (fun a U => a = as' ∧ Z.Warmed39 U.vm ∧ U.heap = h) (fun _ _ _ _ _ => True) (fun _ U o U' => ∃ v L, o = .returned v ∧ Q' v U'.heap L ∧ FrameEnd U o U' L rm.cells rm.slots)) (wc : (Jvm.Cond.code y bytes maxL ret).before a0 Z = true) (wz : (Jvm.Cond.initialized y.cls).before a0 Z = true) (hfr : rm.frames + 1 ≤ R.frames) (eT : T.heap = h) (hsize : Ls.size = c.maxLocals) (argsL : List Value) {rest : List Value} (W : Nat) (hlo : W + (maxL + 11) + rm.locals ≤ R.locals) (hW : 2 * 0 + (rest.map fun v => v.category).sum ≤ W) (hcells : cells + rm.cells ≤ R.cells) (hslots : slots + rm.slots ≤ R.slots) (hlen : ∀ sig, parseMethodDescriptor y.desc = some sig → argsL.length = sig.parameters.length) (hst : st = argsL.reverse ++ .ref a :: rest) (has : (.ref a :: argsL).toArray = as') (pc' : Nat) (hp : pc + 3 = pc') (hd : decode c.code pc = .ok (.invokevirtual index, 3))
    (k : ∀ v T' Lc, Stand p l e R s m args below meth c T' (locs ++ Lc) (cells + rm.cells) (slots + rm.slots) → Q' v T'.heap Lc → own_Go p e below Fe Q (T'.setTop (mkF m pc' Ls (v.toList ++ rest)))) : own_Go p e below Fe Q (T.setTop (mkF m pc Ls st)) := by
  subst hp
  obtain ⟨cq, q1, q2⟩ := E.cell
  have hsel : (Jvm.Cond.selects y.cls y y).before args s = true := by
    obtain ⟨c2, r2, m2, -, -, q3, -, kP, hkP, hkPi⟩ := Cond.selects_spec (mvT hZ w3 : (Jvm.Cond.selects z.cls z z).before args s = true)
    exact selects_self_of_private (hz ▸ findClass_of_methodNamed q3) hkP hkPi (Cond.privateMethod_at (mvP hZ w4 (args := #[]))) (mvT hZ w2) hy
  obtain ⟨v, _, ⟨T', L', k', n'⟩, -, X', ⟨Lc, hQ, l1, l2, l3⟩, st'⟩ := X.privateBack hx (y := y) hown (mvT hZ w1) (mvT hZ w2) hsel (Cond.privateMethod_at (mvP hZ w4 (args := #[]))) (mvT hZ wc) hy (backOf (W := W) hM hZ wc wz hfr hlo) (g := mkF m pc Ls st) rfl hsize (Steps.refl _) (a := a) (by rw [eT]; exact q1) q2 (argsL := argsL) (rest := rest) hlen hst hW hd (fun _ _ => ⟨has, eT, hcells, hslots⟩)
  dsimp only [Pt.U, Pt.locs, Pt.cells, Pt.slots] at X' l1 l2 l3 st' hQ
  subst l1 l2 l3
  exact own_tr st' (k v T' Lc X' hQ)
theorem own_rawbits (X : Stand p l e R s m args below meth c T locs cells slots) (hx : p.tables.exec = Jvm.exec) (hZ : Z.Warmed39 s.vm) {own : String} {index : Nat} (hown : s.vm.findClass own = some m.cls) (w1 : (Jvm.Cond.methodLink own index doubleToRawLongBitsName).before a0 Z = true) (w2 : (Jvm.Cond.native doubleToRawLongBitsName).before a0 Z = true) (w3 : (Jvm.Cond.static doubleToRawLongBitsName).before a0 Z = true) (w4 : (Jvm.Cond.initialized "java/lang/Double").before a0 Z = true) (eT : T.heap = h) (hsize : Ls.size = c.maxLocals) {b : UInt64} (pc' : Nat) (hp : pc + 3 = pc') (hd : decode c.code pc = .ok (.invokestatic index, 3)) (hf : 1 ≤ R.frames) (W : Nat) (hW : 2 * 0 + (st.map fun v => v.category).sum ≤ W) (hl : W + 15 ≤ R.locals)
    (k : ∀ T', Stand p l e R s m args below meth c T' locs cells slots → T'.heap = h → own_Go p e below Fe Q (T'.setTop (mkF m pc' Ls (.long b.toInt64 :: st)))) : own_Go p e below Fe Q (T.setTop (mkF m pc Ls (.double b :: st))) := by
  subst hp
  obtain ⟨vm', X', st'⟩ := X.doubleToRawLongBits hx hown (mvT hZ w1) (mvT hZ w2) (mvT hZ w3) (mvT hZ w4) (g := mkF m pc Ls (.double b :: st)) rfl hsize (rest := st) (b := b) rfl hd hf (Nat.le_trans (Nat.add_le_add_right hW _) hl)
  exact own_st st' (k _ X' eT)
end OwnSteps
theorem own_w63 : own_is (4890909195324358656 : UInt64) 9223372036854775808 0 := by
  have e : FP.Core.val64 (4890909195324358656 : UInt64) = .fin false (2 ^ 52) 11 := by decide +kernel
  refine ⟨⟨_, _, _, e⟩, ?_⟩
  unfold own_z
  rw [e, own_U_eq]
  decide +kernel
theorem own_w64 : own_is (4895412794951729152 : UInt64) 18446744073709551616 0 := by
  have e : FP.Core.val64 (4895412794951729152 : UInt64) = .fin false (2 ^ 52) 12 := by decide +kernel
  refine ⟨⟨_, _, _, e⟩, ?_⟩
  unfold own_z
  rw [e, own_U_eq]
  decide +kernel
theorem own_w65 : own_is (4899916394579099648 : UInt64) 36893488147419103232 0 := by
  have e : FP.Core.val64 (4899916394579099648 : UInt64) = .fin false (2 ^ 52) 13 := by decide +kernel
  refine ⟨⟨_, _, _, e⟩, ?_⟩
  unfold own_z
  rw [e, own_U_eq]
  decide +kernel
theorem own_wm65 : own_is (4314448443020935168 : UInt64) 1 65 := by
  have e : FP.Core.val64 (4314448443020935168 : UInt64) = .fin false (2 ^ 52) (-117) := by decide +kernel
  refine ⟨⟨_, _, _, e⟩, ?_⟩
  unfold own_z
  rw [e, own_U_eq]
  decide +kernel
theorem own_w2 : own_is (4611686018427387904 : UInt64) 2 0 := by
  have e : FP.Core.val64 (4611686018427387904 : UInt64) = .fin false (2 ^ 52) (-51) := by decide +kernel
  refine ⟨⟨_, _, _, e⟩, ?_⟩
  unfold own_z
  rw [e, own_U_eq]
  decide +kernel
theorem own_half : own_is (4602678819172646912 : UInt64) 1 1 := by
  have e : FP.Core.val64 (4602678819172646912 : UInt64) = .fin false (2 ^ 52) (-53) := by decide +kernel
  refine ⟨⟨_, _, _, e⟩, ?_⟩
  unfold own_z
  rw [e, own_U_eq]
  decide +kernel
def own_D1 (h : Int64) : UInt64 := FP.dadd FP.dconst1 (FP.l2d h)
def own_D (h c : Int64) : UInt64 := FP.dadd (own_D1 h) (FP.l2d c)
def own_fit (h c : Int64) : UInt64 := FP.ddiv FP.dconst1 (own_D h c)
section OwnLaw
variable {h c h' c' : Int64}
theorem own_zl0 (h0 : 0 ≤ h.toInt) : 0 ≤ own_z (FP.l2d h) := by rw [show own_z (FP.l2d h) = _ from own_l2d_rr h0]; exact Int.natCast_nonneg _
theorem own_one64 : FP.Core.one64 = own_U := by rw [own_U_eq]; decide +kernel
theorem own_zl (h0 : 0 ≤ h.toInt) : own_z (FP.l2d h) ≤ 9223372036854775808 * (own_U : Int) := by
  have e := own_w63.z
  have r := h.toInt_lt
  unfold own_z at e ⊢
  rw [← e]
  refine FP.Core.l2d_zval_le own_w63.val ?_
  rw [e, own_one64]
  exact Int.mul_le_mul_of_nonneg_right (by omega) (Int.le_of_lt own_U_pos)
theorem own_zl1 (h1 : 1 ≤ h.toInt) : (own_U : Int) ≤ own_z (FP.l2d h) := by
  have e := own_is.one.z
  rw [Int.one_mul] at e
  unfold own_z at e ⊢
  rw [← e]
  refine FP.Core.l2d_zval_ge own_is.one.val ?_
  rw [e, own_one64]
  refine Int.le_trans (Int.le_of_eq (Int.one_mul _).symm) (Int.mul_le_mul_of_nonneg_right h1 (Int.le_of_lt own_U_pos))
theorem own_lfin (h : Int64) : FP.Core.DFin (FP.l2d h) := FP.Core.l2d_fin h
theorem own_one_z : own_z FP.dconst1 = (own_U : Int) := by rw [own_is.one.z, Int.one_mul]
theorem own_D1_ge (h0 : 0 ≤ h.toInt) : (own_U : Int) ≤ own_z (own_D1 h) := by
  rw [← own_one_z]
  exact own_dadd_ge own_is.one.1 (own_lfin h) own_is.one.val (by have := own_zl0 h0; omega)
theorem own_D1_le (h0 : 0 ≤ h.toInt) : own_z (own_D1 h) ≤ 18446744073709551616 * (own_U : Int) := by
  rw [← own_w64.z]
  refine own_dadd_le own_is.one.1 (own_lfin h) own_w64.val ?_
  rw [own_one_z, own_w64.z]
  have := own_zl h0
  have := own_U_pos
  omega
theorem own_D1_nn (h0 : 0 ≤ h.toInt) : FP.Core.val64 (own_D1 h) ≠ .nan := by
  obtain ⟨_, _, -, -, -, k⟩ := own_sum_rr own_is.one.1 (own_lfin h) (by rw [own_one_z]; have := own_zl0 h0; have := own_U_pos; omega)
  exact k
theorem own_D1_fin (h0 : 0 ≤ h.toInt) : FP.Core.DFin (own_D1 h) := own_fin_le (own_D1_nn h0) (by have := own_D1_ge h0; have := own_U_pos; omega) own_w64.1 (by rw [own_w64.z]; exact own_D1_le h0)
theorem own_D_ge (h0 : 0 ≤ h.toInt) (c0 : 0 ≤ c.toInt) : (own_U : Int) ≤ own_z (own_D h c) := by
  rw [← own_one_z]
  refine own_dadd_ge (own_D1_fin h0) (own_lfin c) own_is.one.val ?_
  rw [own_one_z]
  have := own_D1_ge h0
  have := own_zl0 c0
  omega
theorem own_D_le (h0 : 0 ≤ h.toInt) (c0 : 0 ≤ c.toInt) : own_z (own_D h c) ≤ 36893488147419103232 * (own_U : Int) := by
  rw [← own_w65.z]
  refine own_dadd_le (own_D1_fin h0) (own_lfin c) own_w65.val ?_
  rw [own_w65.z]
  have := own_D1_le h0
  have := own_zl c0
  have := own_U_pos
  omega
theorem own_D_nn (h0 : 0 ≤ h.toInt) (c0 : 0 ≤ c.toInt) : FP.Core.val64 (own_D h c) ≠ .nan := by
  obtain ⟨_, _, -, -, -, k⟩ := own_sum_rr (own_D1_fin h0) (own_lfin c) (by have := own_D1_ge h0; have := own_zl0 c0; have := own_U_pos; omega)
  exact k
theorem own_D_pos (h0 : 0 ≤ h.toInt) (c0 : 0 ≤ c.toInt) : 0 < own_z (own_D h c) := by have := own_D_ge h0 c0; have := own_U_pos; omega
theorem own_D_fin (h0 : 0 ≤ h.toInt) (c0 : 0 ≤ c.toInt) : FP.Core.DFin (own_D h c) := own_fin_le (own_D_nn h0 c0) (Int.le_of_lt (own_D_pos h0 c0)) own_w65.1 (by rw [own_w65.z]; exact own_D_le h0 c0)
theorem own_D_two (h0 : 0 ≤ h.toInt) (c0 : 0 ≤ c.toInt) (k : 1 ≤ h.toInt ∨ 1 ≤ c.toInt) : 2 * (own_U : Int) ≤ own_z (own_D h c) := by
  rw [← own_w2.z]
  refine own_dadd_ge (own_D1_fin h0) (own_lfin c) own_w2.val ?_
  rw [own_w2.z]
  rcases k with k | k
  · have a : 2 * (own_U : Int) ≤ own_z (own_D1 h) := by
      rw [← own_w2.z]
      refine own_dadd_ge own_is.one.1 (own_lfin h) own_w2.val ?_
      rw [own_w2.z, own_one_z]
      have := own_zl1 k
      omega
    have := own_zl0 c0
    omega
  · have := own_D1_ge h0
    have := own_zl1 k
    omega
theorem own_one_nn : 0 ≤ own_z FP.dconst1 := by rw [own_one_z]; exact Int.le_of_lt own_U_pos
theorem own_fit_nn (h0 : 0 ≤ h.toInt) (c0 : 0 ≤ c.toInt) : FP.Core.val64 (own_fit h c) ≠ .nan ∧ 0 ≤ own_z (own_fit h c) := own_div_nonneg own_is.one.1 (own_D_fin h0 c0) own_one_nn (own_D_pos h0 c0)
theorem own_fit_pos (h0 : 0 ≤ h.toInt) (c0 : 0 ≤ c.toInt) : 0 < own_z (own_fit h c) := by
  refine Int.lt_of_lt_of_le (own_wm65.pos (by decide)) (own_div_ge own_is.one.1 (own_D_fin h0 c0) own_one_nn (own_D_pos h0 c0) (own_wm65.nonneg (by decide)) ?_)
  have e := own_wm65.2
  rw [Int.one_mul] at e
  rw [own_one_z]
  have k := own_D_le h0 c0
  have p := own_wm65.nonneg (by decide)
  calc own_z 4314448443020935168 * own_z (own_D h c) ≤ own_z 4314448443020935168 * (36893488147419103232 * (own_U : Int)) := Int.mul_le_mul_of_nonneg_left k p
    _ = (own_z 4314448443020935168 * ((2 ^ 65 : Nat) : Int)) * (own_U : Int) := by rw [Int.mul_assoc]; rfl
    _ = (own_U : Int) * (own_U : Int) := by rw [e]
theorem own_fit_le1 (h0 : 0 ≤ h.toInt) (c0 : 0 ≤ c.toInt) : own_z (own_fit h c) ≤ own_z FP.dconst1 := by
  refine own_div_le own_is.one.1 (own_D_fin h0 c0) own_one_nn (own_D_pos h0 c0) own_is.one.val own_one_nn ?_
  rw [own_one_z]
  exact Int.mul_le_mul_of_nonneg_left (own_D_ge h0 c0) (Int.le_of_lt own_U_pos)
theorem own_fit_lt1 (h0 : 0 ≤ h.toInt) (c0 : 0 ≤ c.toInt) (k : 1 ≤ h.toInt ∨ 1 ≤ c.toInt) : own_z (own_fit h c) < own_z FP.dconst1 := by
  refine Int.lt_of_le_of_lt (own_div_le own_is.one.1 (own_D_fin h0 c0) own_one_nn (own_D_pos h0 c0) own_half.val (own_half.nonneg (by decide)) ?_) ((own_half.lt_iff (own_is.one.scale 1)).mpr (by decide))
  have e := own_half.2
  rw [Int.one_mul] at e
  have e' : own_z (4602678819172646912 : UInt64) * 2 = (own_U : Int) := e
  rw [own_one_z]
  have q := own_D_two h0 c0 k
  have p := own_half.nonneg (by decide)
  calc (own_U : Int) * (own_U : Int) = own_z 4602678819172646912 * (2 * (own_U : Int)) := by rw [← Int.mul_assoc, e']
    _ ≤ own_z 4602678819172646912 * own_z (own_D h c) := Int.mul_le_mul_of_nonneg_left q p
theorem own_D1_is {n : Int} (e : h.toInt = n) (h0 : 0 ≤ n) (hb : n < 1099511627776) : own_is (own_D1 h) (1 + n) 0 := by
  have k := own_is.add own_is.one (own_is.l2d (a := h) (by omega)) (by omega) (by decide)
  rw [e] at k
  exact k
theorem own_D_is {n m : Int} (e : h.toInt = n) (h0 : 0 ≤ n) (hb : n < 1099511627776) (e' : c.toInt = m) (m0 : 0 ≤ m) (mb : m < 1099511627776) : own_is (own_D h c) (1 + n + m) 0 := by
  have k := own_is.add (own_D1_is e h0 hb) (own_is.l2d (a := c) (by omega)) (by omega) (by decide)
  rw [e'] at k
  exact k
theorem own_fit1 (h0 : h.toInt = 0) (c0 : c.toInt = 0) : own_is (own_fit h c) 1 0 := own_is.div own_is.one (own_D_is h0 (by decide) (by decide) c0 (by decide) (by decide)) (by decide) (by decide) (by decide) (by decide) rfl
theorem own_sum64 {n m : Int} (e : h.toInt = n) (h0 : 0 ≤ n) (hb : n < 1099511627776) (e' : c.toInt = m) (m0 : 0 ≤ m) (mb : m < 1099511627776) : (((1 : Int64) + h) + c).toInt = 1 + n + m := by
  have l1 : ((1 : Int64)).toInt = 1 := by decide
  have a : ((1 : Int64) + h).toInt = 1 + n := by rw [FP.Core.int64_add (by omega) (by omega), l1, e]
  rw [FP.Core.int64_add (by omega) (by omega), a, e']
theorem own_exact {n m : Int} (e : h.toInt = n) (h0 : 0 ≤ n) (hb : n < 1099511627776) (e' : c.toInt = m) (m0 : 0 ≤ m) (mb : m < 1099511627776) :
    FP.Core.val64 (FP.ddiv FP.dconst1 (FP.l2d (((1 : Int64) + h) + c))) ≠ .nan ∧ own_z (own_fit h c) = own_z (FP.ddiv FP.dconst1 (FP.l2d (((1 : Int64) + h) + c))) := by
  have s := own_sum64 e h0 hb e' m0 mb
  have k := own_is.l2d (a := ((1 : Int64) + h) + c) (by rw [s]; omega)
  rw [s] at k
  have d := own_D_is e h0 hb e' m0 mb
  refine ⟨(own_div_nonneg own_is.one.1 k.1 own_one_nn (k.pos (by omega))).1, own_div_congr own_is.one.1 d.1 own_is.one.1 k.1 own_one_nn (d.pos (by omega)) own_one_nn (k.pos (by omega)) ?_⟩
  rw [d.z, k.z]
theorem own_mono (h0 : 0 ≤ h.toInt) (c0 : 0 ≤ c.toInt) (k1 : h.toInt ≤ h'.toInt) (k2 : c.toInt ≤ c'.toInt) : own_z (own_fit h' c') ≤ own_z (own_fit h c) := by
  have h0' := Int.le_trans h0 k1
  have c0' := Int.le_trans c0 k2
  refine own_div_anti own_is.one.1 (own_D_fin h0 c0) (own_D_fin h0' c0') own_one_nn (own_D_pos h0 c0) ?_
  have a : own_z (own_D1 h) ≤ own_z (own_D1 h') := own_dadd_mono own_is.one.1 (own_lfin h) own_is.one.1 (own_lfin h') (by rw [own_one_z]; have := own_zl0 h0; have := own_U_pos; omega) (by have : own_z (FP.l2d h) ≤ own_z (FP.l2d h') := own_l2d_mono h0 k1; omega)
  have b : own_z (FP.l2d c) ≤ own_z (FP.l2d c') := own_l2d_mono c0 k2
  exact own_dadd_mono (own_D1_fin h0) (own_lfin c) (own_D1_fin h0') (own_lfin c') (by have := own_D1_ge h0; have := own_zl0 c0; have := own_U_pos; omega) (by omega)
end OwnLaw
theorem own_l0 : ((0 : Int64)).toInt = 0 := by decide
def own_m (j : Int64) : Int64 := j &&& (9223372036854775807 : Int64)
theorem own_m_ge (j : Int64) : 0 ≤ (own_m j).toInt := by
  unfold own_m
  rw [c_maskL j 9223372036854775807 63 (by decide) (by decide)]; omega
def own_s (j : Int64) : Int64 := j &&& (1099511627775 : Int64)
theorem own_s_rng (j : Int64) : 0 ≤ (own_s j).toInt ∧ (own_s j).toInt < 1099511627776 := by
  unfold own_s
  rw [c_maskL j 1099511627775 40 (by decide) (by decide)]; omega
def own_x (a b : Int64) : Int64 := if own_m a < own_m b then own_m b else own_m a
theorem own_x_ge (a b : Int64) : (own_m a).toInt ≤ (own_x a b).toInt := by
  unfold own_x
  split
  · rename_i h
    rw [Int64.lt_iff_toInt_lt] at h; omega
  · omega
theorem own_x0 (a b : Int64) : 0 ≤ (own_x a b).toInt := Int.le_trans (own_m_ge a) (own_x_ge a b)
theorem own_nz {j : Int64} (h : ¬ own_m j = 0) : 1 ≤ (own_m j).toInt := by
  have := own_m_ge j
  have : (own_m j).toInt ≠ 0 := fun q => h (Int64.toInt_inj.mp (q.trans own_l0.symm))
  omega
theorem own_z0 {j : Int64} (h : own_m j = 0) : (own_m j).toInt = 0 := by rw [h, own_l0]
theorem own_ef_rm_maxJ (m : MethodId) (a : Int64) (b : Int64) : entryFrame m #[(.long a), (.long b)] 4 = mkF m 0 #[.val (.long a), .second, .val (.long b), .second] [] := by first | (simp [entryFrame, mkF, argsToLocals, Value.category]; done) | rfl
def Q_rm_maxJ (Z : State) (a : Int64) (b : Int64) (r : Int64) (h0 : Heap) (n0 : Nat) (v : Option Value) (h : Heap) (L : List Loc) : Prop := v = some (.long r) ∧ Fr n0 L ∧ h = h0
theorem own_d1_0 : decode jdk_29_method_66_code 0 = .ok (.lload_n 0, 1) := by decide +kernel
theorem own_d1_1 : decode jdk_29_method_66_code 1 = .ok (.lload_n 2, 1) := by decide +kernel
theorem own_d1_2 : decode jdk_29_method_66_code 2 = .ok (.lcmp, 1) := by decide +kernel
theorem own_d1_3 : decode jdk_29_method_66_code 3 = .ok (.ifCond .lt 7, 3) := by decide +kernel
theorem own_d1_10 : decode jdk_29_method_66_code 10 = .ok (.lload_n 2, 1) := by decide +kernel
theorem own_d1_11 : decode jdk_29_method_66_code 11 = .ok (.lreturn, 1) := by decide +kernel
theorem own_d1_6 : decode jdk_29_method_66_code 6 = .ok (.lload_n 0, 1) := by decide +kernel
theorem own_d1_7 : decode jdk_29_method_66_code 7 = .ok (.goto 4, 3) := by decide +kernel
set_option maxRecDepth 65536 in
set_option maxHeartbeats 40000000 in
theorem rm_maxJ (l : Launch) (Z : State) (a0 : Array Value) (hw : ∀ d ∈ tables_1, d.before a0 Z = true) (ws : List Jvm.Cond) (a : Int64) (b : Int64) (r : Int64) (h0 : Heap) (n0 : Nat) (Z0 : n0 ≤ h0.size) (hres : (if a < b then b else a) = r) :
    MetFree l (⟨"java/lang/Math", "max", "(JJ)J"⟩ : MethodName) (head1 (Jvm.Cond.code (⟨"java/lang/Math", "max", "(JJ)J"⟩ : MethodName) jdk_29_method_66_code 4 (some .long) :: ws) ({ frames := 0, cells := 0, slots := 0, locals := 0 } : Room)) (fun aa U => aa = #[(.long a), (.long b)] ∧ Z.Warmed39 U.vm ∧ U.heap = h0) (fun _ _ _ _ _ => True) (fun _ U ou U' => ∃ v L, ou = .returned v ∧ Q_rm_maxJ Z a b r h0 n0 v U'.heap L ∧ FrameEnd U ou U' L ({ frames := 0, cells := 0, slots := 0, locals := 0 } : Room).cells ({ frames := 0, cells := 0, slots := 0, locals := 0 } : Room).slots) := by
  refine MetFree.of_bodySF (Jvm.Free.JP.mathPlain rfl (by decide +kernel)) hisR ?_
  intro p e s m args below meth c s₁ Bd hml0 hP hK
  obtain ⟨rfl, hZ, hh⟩ := hP
  have hx := Bd.exec
  have hby := Bd.bytes
  have hml : c.maxLocals = 4 := hml0
  have hown : s.vm.findClass "java/lang/Math" = some m.cls := findClass_of_methodNamed Bd.named
  have hnm := (name_of_methodNamed Bd.named Bd.method).1
  have X0 : Stand p l e ({ frames := 0, cells := 0, slots := 0, locals := 0 } : Room) s m #[(.long a), (.long b)] below meth c s₁ [] 0 0 := Stand.of_body Bd
  have e0 : s₁.heap = h0 := by rw [← hh, Bd.state]; rfl
  have N0 := Fr.nil n0
  show own_Go p e below (fun o u L => FrameEnd s o u L ({ frames := 0, cells := 0, slots := 0, locals := 0 } : Room).cells ({ frames := 0, cells := 0, slots := 0, locals := 0 } : Room).slots) (Q_rm_maxJ Z a b r h0 n0) (s₁.setTop (entryFrame m #[(.long a), (.long b)] 4))
  rw [own_ef_rm_maxJ m a b]
  show own_Go _ _ _ _ _ (State.setTop _ (mkF _ 0 #[.val (.long a), .second, .val (.long b), .second] []))
  refine own_lloadN X0 hx 1 rfl (hb hby own_d1_0) rfl ?_
  refine own_lloadN X0 hx 2 rfl (hb hby own_d1_1) rfl ?_
  refine own_lcmp X0 hx 3 rfl (hb hby own_d1_2) _ rfl ?_
  by_cases hc1 : a < b
  ·
    refine own_ifYes X0 hx 10 (hb hby own_d1_3) ((if0 _ _).trans (tlt ((lw_lt _ _).mpr hc1)).1) (by decide) rfl ?_
    refine own_lloadN X0 hx 11 rfl (hb hby own_d1_10) rfl ?_
    refine own_ret X0 (some (.long b)) (fun h => by rw [Bd.returns] at h; cases h) Bd.notSynchronized (by decide) (by decide) ?_ (fun fs hr => own_retJ X0 hx Bd.returns (hb hby own_d1_11) hr)
    show Q_rm_maxJ Z a b r h0 n0 _ s₁.heap _
    rw [e0]
    exact ⟨by rw [← hres, if_pos hc1], N0, rfl⟩
  ·
    refine own_ifNo X0 hx 6 rfl (hb hby own_d1_3) ((if0 _ _).trans (flt (fun z => hc1 ((lw_lt _ _).mp z))).1) ?_
    refine own_lloadN X0 hx 7 rfl (hb hby own_d1_6) rfl ?_
    refine own_goto X0 hx 11 (hb hby own_d1_7) (by decide) rfl ?_
    refine own_ret X0 (some (.long a)) (fun h => by rw [Bd.returns] at h; cases h) Bd.notSynchronized (by decide) (by decide) ?_ (fun fs hr => own_retJ X0 hx Bd.returns (hb hby own_d1_11) hr)
    show Q_rm_maxJ Z a b r h0 n0 _ s₁.heap _
    rw [e0]
    exact ⟨by rw [← hres, if_neg hc1], N0, rfl⟩
theorem own_pn0 : plainName "com/example/slotwright/slotwright/search/Individual" = true := by first | (simp [plainName, overriddenIn]; done) | decide +kernel
theorem own_ef_rm_init (m : MethodId) (o : Addr) (a : Addr) (b : Addr) (hd : Int64) (cs : Int64) : entryFrame m #[(.ref o), (.ref a), (.ref b), (.long hd), (.long cs), .null, .null] 9 = mkF m 0 #[.val (.ref o), .val (.ref a), .val (.ref b), .val (.long hd), .second, .val (.long cs), .second, .val .null, .val .null] [] := by first | (simp [entryFrame, mkF, argsToLocals, Value.category]; done) | rfl
def Q_rm_init (Z : State) (o : Addr) (a : Addr) (b : Addr) (hd : Int64) (cs : Int64) (h0 : Heap) (n0 : Nat) (v : Option Value) (h : Heap) (L : List Loc) : Prop := v = none ∧ Fr n0 L ∧ Keep h0 h [o] ∧ Exa Z h o "com/example/slotwright/slotwright/search/Individual" ∧ Fld Z h o "com/example/slotwright/slotwright/search/Individual" "rooms" "[I" (.ref a) ∧ Fld Z h o "com/example/slotwright/slotwright/search/Individual" "periods" "[I" (.ref b) ∧ Fld Z h o "com/example/slotwright/slotwright/search/Individual" "hard" "J" (.long hd) ∧ Fld Z h o "com/example/slotwright/slotwright/search/Individual" "cost" "J" (.long cs) ∧ Fld Z h o "com/example/slotwright/slotwright/search/Individual" "courseCosts" "Lcom/example/slotwright/slotwright/search/CourseCosts;" .null ∧ Fld Z h o "com/example/slotwright/slotwright/search/Individual" "hardMarks" "Lcom/example/slotwright/slotwright/rules/BrokenLectures;" .null
theorem own_d2_0 : decode prog_56_method_1_code 0 = .ok (.aload_n 0, 1) := by decide +kernel
theorem own_d2_1 : decode prog_56_method_1_code 1 = .ok (.invokespecial 1, 3) := by decide +kernel
theorem own_d2_4 : decode prog_56_method_1_code 4 = .ok (.aload_n 0, 1) := by decide +kernel
theorem own_d2_5 : decode prog_56_method_1_code 5 = .ok (.aload_n 1, 1) := by decide +kernel
theorem own_d2_6 : decode prog_56_method_1_code 6 = .ok (.putfield 7, 3) := by decide +kernel
theorem own_d2_9 : decode prog_56_method_1_code 9 = .ok (.aload_n 0, 1) := by decide +kernel
theorem own_d2_10 : decode prog_56_method_1_code 10 = .ok (.aload_n 2, 1) := by decide +kernel
theorem own_d2_11 : decode prog_56_method_1_code 11 = .ok (.putfield 13, 3) := by decide +kernel
theorem own_d2_14 : decode prog_56_method_1_code 14 = .ok (.aload_n 0, 1) := by decide +kernel
theorem own_d2_15 : decode prog_56_method_1_code 15 = .ok (.lload_n 3, 1) := by decide +kernel
theorem own_d2_16 : decode prog_56_method_1_code 16 = .ok (.putfield 16, 3) := by decide +kernel
theorem own_d2_19 : decode prog_56_method_1_code 19 = .ok (.aload_n 0, 1) := by decide +kernel
theorem own_d2_20 : decode prog_56_method_1_code 20 = .ok (.lload 5, 2) := by decide +kernel
theorem own_d2_22 : decode prog_56_method_1_code 22 = .ok (.putfield 20, 3) := by decide +kernel
theorem own_d2_25 : decode prog_56_method_1_code 25 = .ok (.aload_n 0, 1) := by decide +kernel
theorem own_d2_26 : decode prog_56_method_1_code 26 = .ok (.aload 7, 2) := by decide +kernel
theorem own_d2_28 : decode prog_56_method_1_code 28 = .ok (.putfield 23, 3) := by decide +kernel
theorem own_d2_31 : decode prog_56_method_1_code 31 = .ok (.aload_n 0, 1) := by decide +kernel
theorem own_d2_32 : decode prog_56_method_1_code 32 = .ok (.aload 8, 2) := by decide +kernel
theorem own_d2_34 : decode prog_56_method_1_code 34 = .ok (.putfield 27, 3) := by decide +kernel
theorem own_d2_37 : decode prog_56_method_1_code 37 = .ok (.return_, 1) := by decide +kernel
set_option maxRecDepth 65536 in
set_option maxHeartbeats 40000000 in
theorem rm_init (l : Launch) (Z : State) (a0 : Array Value) (hw : ∀ d ∈ tables_1, d.before a0 Z = true) (ws : List Jvm.Cond) (o : Addr) (a : Addr) (b : Addr) (hd : Int64) (cs : Int64) (h0 : Heap) (n0 : Nat) (Z0 : n0 ≤ h0.size) (E1 : Exa Z h0 o "com/example/slotwright/slotwright/search/Individual") (F_rooms : Fld Z h0 o "com/example/slotwright/slotwright/search/Individual" "rooms" "[I" .null) (F_periods : Fld Z h0 o "com/example/slotwright/slotwright/search/Individual" "periods" "[I" .null) (F_hard : Fld Z h0 o "com/example/slotwright/slotwright/search/Individual" "hard" "J" (.long (0 : Int64))) (F_cost : Fld Z h0 o "com/example/slotwright/slotwright/search/Individual" "cost" "J" (.long (0 : Int64))) (F_courseCosts : Fld Z h0 o "com/example/slotwright/slotwright/search/Individual" "courseCosts" "Lcom/example/slotwright/slotwright/search/CourseCosts;" .null) (F_hardMarks : Fld Z h0 o "com/example/slotwright/slotwright/search/Individual" "hardMarks" "Lcom/example/slotwright/slotwright/rules/BrokenLectures;" .null) (g_o : n0 ≤ o) :
    MetFree l (⟨"com/example/slotwright/slotwright/search/Individual", "<init>", "([I[IJJLcom/example/slotwright/slotwright/search/CourseCosts;Lcom/example/slotwright/slotwright/rules/BrokenLectures;)V"⟩ : MethodName) (head1 (Jvm.Cond.code (⟨"com/example/slotwright/slotwright/search/Individual", "<init>", "([I[IJJLcom/example/slotwright/slotwright/search/CourseCosts;Lcom/example/slotwright/slotwright/rules/BrokenLectures;)V"⟩ : MethodName) prog_56_method_1_code 9 none :: ws) ({ frames := 1, cells := 0, slots := 0, locals := 12 } : Room)) (fun aa U => aa = #[(.ref o), (.ref a), (.ref b), (.long hd), (.long cs), .null, .null] ∧ Z.Warmed39 U.vm ∧ U.heap = h0) (fun _ _ _ _ _ => True) (fun _ U ou U' => ∃ v L, ou = .returned v ∧ Q_rm_init Z o a b hd cs h0 n0 v U'.heap L ∧ FrameEnd U ou U' L ({ frames := 1, cells := 0, slots := 0, locals := 12 } : Room).cells ({ frames := 1, cells := 0, slots := 0, locals := 12 } : Room).slots) := by
  refine MetFree.of_bodySF (plainFor_of_name own_pn0) hisR ?_
  intro p e s m args below meth c s₁ Bd hml0 hP hK
  obtain ⟨rfl, hZ, hh⟩ := hP
  have hx := Bd.exec
  have hby := Bd.bytes
  have hml : c.maxLocals = 9 := hml0
  have hown : s.vm.findClass "com/example/slotwright/slotwright/search/Individual" = some m.cls := findClass_of_methodNamed Bd.named
  have hnm := (name_of_methodNamed Bd.named Bd.method).1
  have X0 : Stand p l e ({ frames := 1, cells := 0, slots := 0, locals := 12 } : Room) s m #[(.ref o), (.ref a), (.ref b), (.long hd), (.long cs), .null, .null] below meth c s₁ [] 0 0 := Stand.of_body Bd
  have e0 : s₁.heap = h0 := by rw [← hh, Bd.state]; rfl
  have N0 := Fr.nil n0
  have K0 := Keep.refl h0 [o]
  show own_Go p e below (fun o u L => FrameEnd s o u L ({ frames := 1, cells := 0, slots := 0, locals := 12 } : Room).cells ({ frames := 1, cells := 0, slots := 0, locals := 12 } : Room).slots) (Q_rm_init Z o a b hd cs h0 n0) (s₁.setTop (entryFrame m #[(.ref o), (.ref a), (.ref b), (.long hd), (.long cs), .null, .null] 9))
  rw [own_ef_rm_init m o a b hd cs]
  show own_Go _ _ _ _ _ (State.setTop _ (mkF _ 0 #[.val (.ref o), .val (.ref a), .val (.ref b), .val (.long hd), .second, .val (.long cs), .second, .val .null, .val .null] []))
  refine own_aloadN X0 hx 1 rfl (hb hby own_d2_0) rfl rfl ?_
  refine own_initO X0 hx hZ hown (own_hw hw 13 rfl) (own_hw hw 14 rfl) (own_hw hw 15 rfl) e0 (by rw [hml]; rfl) 4 rfl (hb hby own_d2_1) (by decide) 0 (Nat.le_of_eq rfl) (by decide) fun T2 X2 e2 => ?_
  refine own_aloadN X2 hx 5 rfl (hb hby own_d2_4) rfl rfl ?_
  refine own_aloadN X2 hx 6 rfl (hb hby own_d2_5) rfl rfl ?_
  refine own_putF X2 hx hZ (host := "") hown (Or.inl (own_hw hw 16 rfl)) Via.refl e2 F_rooms E1 (Or.inr ⟨(own_hw hw 17 rfl), rfl, hnm⟩) (own_hw hw 8 rfl) (ty := (.array .int)) (by decide) rfl rfl 9 rfl (hb hby own_d2_6) fun T3 h3 X3 e3 W3 => ?_
  have f4 := E1.wr W3
  have f5 := F_periods.other W3 (Or.inr (slot_ne (Or.inr (own_hw hw 19 rfl)) (Or.inr (own_hw hw 17 rfl)) (by decide) (t := (.array .int)) (t' := (.array .int)) (by decide) (by decide)))
  have f6 := F_hard.other W3 (Or.inr (slot_ne (Or.inr (own_hw hw 21 rfl)) (Or.inr (own_hw hw 17 rfl)) (by decide) (t := .long) (t' := (.array .int)) (by decide) (by decide)))
  have f7 := F_cost.other W3 (Or.inr (slot_ne (Or.inr (own_hw hw 23 rfl)) (Or.inr (own_hw hw 17 rfl)) (by decide) (t := .long) (t' := (.array .int)) (by decide) (by decide)))
  have f8 := F_courseCosts.other W3 (Or.inr (slot_ne (Or.inr (own_hw hw 25 rfl)) (Or.inr (own_hw hw 17 rfl)) (by decide) (t := (.object "com/example/slotwright/slotwright/search/CourseCosts")) (t' := (.array .int)) (by decide) (by decide)))
  have f9 := F_hardMarks.other W3 (Or.inr (slot_ne (Or.inr (own_hw hw 27 rfl)) (Or.inr (own_hw hw 17 rfl)) (by decide) (t := (.object "com/example/slotwright/slotwright/rules/BrokenLectures")) (t' := (.array .int)) (by decide) (by decide)))
  have z10 := Nat.le_trans Z0 (Keep.of_wr W3).1
  have K11 := K0.wr W3 (Or.inl (List.mem_of_getElem? (i := 0) rfl))
  have f12 := F_rooms.same W3
  have N13 := Fr.snoc X3 N0 g_o
  refine own_aloadN X3 hx 10 rfl (hb hby own_d2_9) rfl rfl ?_
  refine own_aloadN X3 hx 11 rfl (hb hby own_d2_10) rfl rfl ?_
  refine own_putF X3 hx hZ (host := "") hown (Or.inl (own_hw hw 18 rfl)) Via.refl e3 f5 f4 (Or.inr ⟨(own_hw hw 19 rfl), rfl, hnm⟩) (own_hw hw 8 rfl) (ty := (.array .int)) (by decide) rfl rfl 14 rfl (hb hby own_d2_11) fun T14 h14 X14 e14 W14 => ?_
  have f15 := f4.wr W14
  have f16 := f6.other W14 (Or.inr (slot_ne (Or.inr (own_hw hw 21 rfl)) (Or.inr (own_hw hw 19 rfl)) (by decide) (t := .long) (t' := (.array .int)) (by decide) (by decide)))
  have f17 := f7.other W14 (Or.inr (slot_ne (Or.inr (own_hw hw 23 rfl)) (Or.inr (own_hw hw 19 rfl)) (by decide) (t := .long) (t' := (.array .int)) (by decide) (by decide)))
  have f18 := f8.other W14 (Or.inr (slot_ne (Or.inr (own_hw hw 25 rfl)) (Or.inr (own_hw hw 19 rfl)) (by decide) (t := (.object "com/example/slotwright/slotwright/search/CourseCosts")) (t' := (.array .int)) (by decide) (by decide)))
  have f19 := f9.other W14 (Or.inr (slot_ne (Or.inr (own_hw hw 27 rfl)) (Or.inr (own_hw hw 19 rfl)) (by decide) (t := (.object "com/example/slotwright/slotwright/rules/BrokenLectures")) (t' := (.array .int)) (by decide) (by decide)))
  have f20 := f12.other W14 (Or.inr (slot_ne (Or.inr (own_hw hw 17 rfl)) (Or.inr (own_hw hw 19 rfl)) (by decide) (t := (.array .int)) (t' := (.array .int)) (by decide) (by decide)))
  have z21 := Nat.le_trans z10 (Keep.of_wr W14).1
  have K22 := K11.wr W14 (Or.inl (List.mem_of_getElem? (i := 0) rfl))
  have f23 := f5.same W14
  have N24 := Fr.snoc X14 N13 g_o
  refine own_aloadN X14 hx 15 rfl (hb hby own_d2_14) rfl rfl ?_
  refine own_lloadN X14 hx 16 rfl (hb hby own_d2_15) rfl ?_
  refine own_putF X14 hx hZ (host := "") hown (Or.inl (own_hw hw 20 rfl)) Via.refl e14 f16 f15 (Or.inr ⟨(own_hw hw 21 rfl), rfl, hnm⟩) (own_hw hw 8 rfl) (ty := .long) (by decide) rfl rfl 19 rfl (hb hby own_d2_16) fun T25 h25 X25 e25 W25 => ?_
  have f26 := f15.wr W25
  have f27 := f17.other W25 (Or.inr (slot_ne (Or.inr (own_hw hw 23 rfl)) (Or.inr (own_hw hw 21 rfl)) (by decide) (t := .long) (t' := .long) (by decide) (by decide)))
  have f28 := f18.other W25 (Or.inr (slot_ne (Or.inr (own_hw hw 25 rfl)) (Or.inr (own_hw hw 21 rfl)) (by decide) (t := (.object "com/example/slotwright/slotwright/search/CourseCosts")) (t' := .long) (by decide) (by decide)))
  have f29 := f19.other W25 (Or.inr (slot_ne (Or.inr (own_hw hw 27 rfl)) (Or.inr (own_hw hw 21 rfl)) (by decide) (t := (.object "com/example/slotwright/slotwright/rules/BrokenLectures")) (t' := .long) (by decide) (by decide)))
  have f30 := f20.other W25 (Or.inr (slot_ne (Or.inr (own_hw hw 17 rfl)) (Or.inr (own_hw hw 21 rfl)) (by decide) (t := (.array .int)) (t' := .long) (by decide) (by decide)))
  have f31 := f23.other W25 (Or.inr (slot_ne (Or.inr (own_hw hw 19 rfl)) (Or.inr (own_hw hw 21 rfl)) (by decide) (t := (.array .int)) (t' := .long) (by decide) (by decide)))
  have z32 := Nat.le_trans z21 (Keep.of_wr W25).1
  have K33 := K22.wr W25 (Or.inl (List.mem_of_getElem? (i := 0) rfl))
  have f34 := f16.same W25
  have N35 := Fr.snoc X25 N24 g_o
  refine own_aloadN X25 hx 20 rfl (hb hby own_d2_19) rfl rfl ?_
  refine own_lload X25 hx 22 rfl (hb hby own_d2_20) rfl ?_
  refine own_putF X25 hx hZ (host := "") hown (Or.inl (own_hw hw 22 rfl)) Via.refl e25 f27 f26 (Or.inr ⟨(own_hw hw 23 rfl), rfl, hnm⟩) (own_hw hw 8 rfl) (ty := .long) (by decide) rfl rfl 25 rfl (hb hby own_d2_22) fun T36 h36 X36 e36 W36 => ?_
  have f37 := f26.wr W36
  have f38 := f28.other W36 (Or.inr (slot_ne (Or.inr (own_hw hw 25 rfl)) (Or.inr (own_hw hw 23 rfl)) (by decide) (t := (.object "com/example/slotwright/slotwright/search/CourseCosts")) (t' := .long) (by decide) (by decide)))
  have f39 := f29.other W36 (Or.inr (slot_ne (Or.inr (own_hw hw 27 rfl)) (Or.inr (own_hw hw 23 rfl)) (by decide) (t := (.object "com/example/slotwright/slotwright/rules/BrokenLectures")) (t' := .long) (by decide) (by decide)))
  have f40 := f30.other W36 (Or.inr (slot_ne (Or.inr (own_hw hw 17 rfl)) (Or.inr (own_hw hw 23 rfl)) (by decide) (t := (.array .int)) (t' := .long) (by decide) (by decide)))
  have f41 := f31.other W36 (Or.inr (slot_ne (Or.inr (own_hw hw 19 rfl)) (Or.inr (own_hw hw 23 rfl)) (by decide) (t := (.array .int)) (t' := .long) (by decide) (by decide)))
  have f42 := f34.other W36 (Or.inr (slot_ne (Or.inr (own_hw hw 21 rfl)) (Or.inr (own_hw hw 23 rfl)) (by decide) (t := .long) (t' := .long) (by decide) (by decide)))
  have z43 := Nat.le_trans z32 (Keep.of_wr W36).1
  have K44 := K33.wr W36 (Or.inl (List.mem_of_getElem? (i := 0) rfl))
  have f45 := f27.same W36
  have N46 := Fr.snoc X36 N35 g_o
  refine own_aloadN X36 hx 26 rfl (hb hby own_d2_25) rfl rfl ?_
  refine own_aload X36 hx 28 rfl (hb hby own_d2_26) rfl rfl ?_
  refine own_putF X36 hx hZ (host := "") hown (Or.inl (own_hw hw 24 rfl)) Via.refl e36 f38 f37 (Or.inr ⟨(own_hw hw 25 rfl), rfl, hnm⟩) (own_hw hw 8 rfl) (ty := (.object "com/example/slotwright/slotwright/search/CourseCosts")) (by decide) rfl rfl 31 rfl (hb hby own_d2_28) fun T47 h47 X47 e47 W47 => ?_
  have f48 := f37.wr W47
  have f49 := f39.other W47 (Or.inr (slot_ne (Or.inr (own_hw hw 27 rfl)) (Or.inr (own_hw hw 25 rfl)) (by decide) (t := (.object "com/example/slotwright/slotwright/rules/BrokenLectures")) (t' := (.object "com/example/slotwright/slotwright/search/CourseCosts")) (by decide) (by decide)))
  have f50 := f40.other W47 (Or.inr (slot_ne (Or.inr (own_hw hw 17 rfl)) (Or.inr (own_hw hw 25 rfl)) (by decide) (t := (.array .int)) (t' := (.object "com/example/slotwright/slotwright/search/CourseCosts")) (by decide) (by decide)))
  have f51 := f41.other W47 (Or.inr (slot_ne (Or.inr (own_hw hw 19 rfl)) (Or.inr (own_hw hw 25 rfl)) (by decide) (t := (.array .int)) (t' := (.object "com/example/slotwright/slotwright/search/CourseCosts")) (by decide) (by decide)))
  have f52 := f42.other W47 (Or.inr (slot_ne (Or.inr (own_hw hw 21 rfl)) (Or.inr (own_hw hw 25 rfl)) (by decide) (t := .long) (t' := (.object "com/example/slotwright/slotwright/search/CourseCosts")) (by decide) (by decide)))
  have f53 := f45.other W47 (Or.inr (slot_ne (Or.inr (own_hw hw 23 rfl)) (Or.inr (own_hw hw 25 rfl)) (by decide) (t := .long) (t' := (.object "com/example/slotwright/slotwright/search/CourseCosts")) (by decide) (by decide)))
  have z54 := Nat.le_trans z43 (Keep.of_wr W47).1
  have K55 := K44.wr W47 (Or.inl (List.mem_of_getElem? (i := 0) rfl))
  have f56 := f38.same W47
  have N57 := Fr.snoc X47 N46 g_o
  refine own_aloadN X47 hx 32 rfl (hb hby own_d2_31) rfl rfl ?_
  refine own_aload X47 hx 34 rfl (hb hby own_d2_32) rfl rfl ?_
  refine own_putF X47 hx hZ (host := "") hown (Or.inl (own_hw hw 26 rfl)) Via.refl e47 f49 f48 (Or.inr ⟨(own_hw hw 27 rfl), rfl, hnm⟩) (own_hw hw 8 rfl) (ty := (.object "com/example/slotwright/slotwright/rules/BrokenLectures")) (by decide) rfl rfl 37 rfl (hb hby own_d2_34) fun T58 h58 X58 e58 W58 => ?_
  have f59 := f48.wr W58
  have f60 := f50.other W58 (Or.inr (slot_ne (Or.inr (own_hw hw 17 rfl)) (Or.inr (own_hw hw 27 rfl)) (by decide) (t := (.array .int)) (t' := (.object "com/example/slotwright/slotwright/rules/BrokenLectures")) (by decide) (by decide)))
  have f61 := f51.other W58 (Or.inr (slot_ne (Or.inr (own_hw hw 19 rfl)) (Or.inr (own_hw hw 27 rfl)) (by decide) (t := (.array .int)) (t' := (.object "com/example/slotwright/slotwright/rules/BrokenLectures")) (by decide) (by decide)))
  have f62 := f52.other W58 (Or.inr (slot_ne (Or.inr (own_hw hw 21 rfl)) (Or.inr (own_hw hw 27 rfl)) (by decide) (t := .long) (t' := (.object "com/example/slotwright/slotwright/rules/BrokenLectures")) (by decide) (by decide)))
  have f63 := f53.other W58 (Or.inr (slot_ne (Or.inr (own_hw hw 23 rfl)) (Or.inr (own_hw hw 27 rfl)) (by decide) (t := .long) (t' := (.object "com/example/slotwright/slotwright/rules/BrokenLectures")) (by decide) (by decide)))
  have f64 := f56.other W58 (Or.inr (slot_ne (Or.inr (own_hw hw 25 rfl)) (Or.inr (own_hw hw 27 rfl)) (by decide) (t := (.object "com/example/slotwright/slotwright/search/CourseCosts")) (t' := (.object "com/example/slotwright/slotwright/rules/BrokenLectures")) (by decide) (by decide)))
  have z65 := Nat.le_trans z54 (Keep.of_wr W58).1
  have K66 := K55.wr W58 (Or.inl (List.mem_of_getElem? (i := 0) rfl))
  have f67 := f49.same W58
  have N68 := Fr.snoc X58 N57 g_o
  refine own_ret X58 none (fun _ => rfl) Bd.notSynchronized (by decide) (by decide) ?_ (fun fs hr => X58.returnOut hx Bd.returns (hb hby own_d2_37) hr)
  show Q_rm_init Z o a b hd cs h0 n0 _ T58.heap _
  rw [e58]
  exact ⟨rfl, N68, K66, f59, f60, f61, f62, f63, f64, f67⟩
theorem own_ef_rm_fit (m : MethodId) (o : Addr) : entryFrame m #[(.ref o)] 1 = mkF m 0 #[.val (.ref o)] [] := by first | (simp [entryFrame, mkF, argsToLocals, Value.category]; done) | rfl
def Q_rm_fit (Z : State) (o : Addr) (hd : Int64) (cs : Int64) (h0 : Heap) (n0 : Nat) (v : Option Value) (h : Heap) (L : List Loc) : Prop := v = some (.double (own_fit hd cs)) ∧ Fr n0 L ∧ h = h0
theorem own_d4_0 : decode prog_56_method_8_code 0 = .ok (.dconst 1, 1) := by decide +kernel
theorem own_d4_1 : decode prog_56_method_8_code 1 = .ok (.dconst 1, 1) := by decide +kernel
theorem own_d4_2 : decode prog_56_method_8_code 2 = .ok (.aload_n 0, 1) := by decide +kernel
theorem own_d4_3 : decode prog_56_method_8_code 3 = .ok (.getfield 16, 3) := by decide +kernel
theorem own_d4_6 : decode prog_56_method_8_code 6 = .ok (.l2d, 1) := by decide +kernel
theorem own_d4_7 : decode prog_56_method_8_code 7 = .ok (.dadd, 1) := by decide +kernel
theorem own_d4_8 : decode prog_56_method_8_code 8 = .ok (.aload_n 0, 1) := by decide +kernel
theorem own_d4_9 : decode prog_56_method_8_code 9 = .ok (.getfield 20, 3) := by decide +kernel
theorem own_d4_12 : decode prog_56_method_8_code 12 = .ok (.l2d, 1) := by decide +kernel
theorem own_d4_13 : decode prog_56_method_8_code 13 = .ok (.dadd, 1) := by decide +kernel
theorem own_d4_14 : decode prog_56_method_8_code 14 = .ok (.ddiv, 1) := by decide +kernel
theorem own_d4_15 : decode prog_56_method_8_code 15 = .ok (.dreturn, 1) := by decide +kernel
set_option maxRecDepth 65536 in
set_option maxHeartbeats 40000000 in
theorem rm_fit (l : Launch) (Z : State) (a0 : Array Value) (hw : ∀ d ∈ tables_1, d.before a0 Z = true) (ws : List Jvm.Cond) (o : Addr) (hd : Int64) (cs : Int64) (h0 : Heap) (n0 : Nat) (Z0 : n0 ≤ h0.size) (F1 : Fld Z h0 o "com/example/slotwright/slotwright/search/Individual" "hard" "J" (.long hd)) (F2 : Fld Z h0 o "com/example/slotwright/slotwright/search/Individual" "cost" "J" (.long cs)) (n1 : NoNaN64 (own_D1 hd)) (n2 : NoNaN64 (own_D hd cs)) (n3 : NoNaN64 (own_fit hd cs)) :
    MetFree l (⟨"com/example/slotwright/slotwright/search/Individual", "fitness", "()D"⟩ : MethodName) (head1 (Jvm.Cond.code (⟨"com/example/slotwright/slotwright/search/Individual", "fitness", "()D"⟩ : MethodName) prog_56_method_8_code 1 (some .double) :: ws) ({ frames := 0, cells := 0, slots := 0, locals := 0 } : Room)) (fun aa U => aa = #[(.ref o)] ∧ Z.Warmed39 U.vm ∧ U.heap = h0) (fun _ _ _ _ _ => True) (fun _ U ou U' => ∃ v L, ou = .returned v ∧ Q_rm_fit Z o hd cs h0 n0 v U'.heap L ∧ FrameEnd U ou U' L ({ frames := 0, cells := 0, slots := 0, locals := 0 } : Room).cells ({ frames := 0, cells := 0, slots := 0, locals := 0 } : Room).slots) := by
  refine MetFree.of_bodySF (plainFor_of_name own_pn0) hisR ?_
  intro p e s m args below meth c s₁ Bd hml0 hP hK
  obtain ⟨rfl, hZ, hh⟩ := hP
  have hx := Bd.exec
  have hby := Bd.bytes
  have hml : c.maxLocals = 1 := hml0
  have hown : s.vm.findClass "com/example/slotwright/slotwright/search/Individual" = some m.cls := findClass_of_methodNamed Bd.named
  have hnm := (name_of_methodNamed Bd.named Bd.method).1
  have X0 : Stand p l e ({ frames := 0, cells := 0, slots := 0, locals := 0 } : Room) s m #[(.ref o)] below meth c s₁ [] 0 0 := Stand.of_body Bd
  have e0 : s₁.heap = h0 := by rw [← hh, Bd.state]; rfl
  have N0 := Fr.nil n0
  show own_Go p e below (fun o u L => FrameEnd s o u L ({ frames := 0, cells := 0, slots := 0, locals := 0 } : Room).cells ({ frames := 0, cells := 0, slots := 0, locals := 0 } : Room).slots) (Q_rm_fit Z o hd cs h0 n0) (s₁.setTop (entryFrame m #[(.ref o)] 1))
  rw [own_ef_rm_fit m o]
  show own_Go _ _ _ _ _ (State.setTop _ (mkF _ 0 #[.val (.ref o)] []))
  refine own_dconst1 X0 hx 1 rfl (hb hby own_d4_0) ?_
  refine own_dconst1 X0 hx 2 rfl (hb hby own_d4_1) ?_
  refine own_aloadN X0 hx 3 rfl (hb hby own_d4_2) rfl rfl ?_
  refine own_getF X0 hx hZ (host := "") hown (Or.inl (own_hw hw 20 rfl)) Via.refl e0 F1 6 rfl (hb hby own_d4_3) fun T69 X69 e69 => ?_
  refine own_l2d X69 hx 7 rfl (hb hby own_d4_6) _ rfl ?_
  refine own_dadd X69 hx 8 rfl (hb hby own_d4_7) n1 (own_D1 hd) rfl ?_
  refine own_aloadN X69 hx 9 rfl (hb hby own_d4_8) rfl rfl ?_
  refine own_getF X69 hx hZ (host := "") hown (Or.inl (own_hw hw 22 rfl)) Via.refl e69 F2 12 rfl (hb hby own_d4_9) fun T70 X70 e70 => ?_
  refine own_l2d X70 hx 13 rfl (hb hby own_d4_12) _ rfl ?_
  refine own_dadd X70 hx 14 rfl (hb hby own_d4_13) n2 (own_D hd cs) rfl ?_
  refine own_ddiv X70 hx 15 rfl (hb hby own_d4_14) n3 (own_fit hd cs) rfl ?_
  refine own_ret X70 (some (.double (own_fit hd cs))) (fun h => by rw [Bd.returns] at h; cases h) Bd.notSynchronized (by decide) (by decide) ?_ (fun fs hr => own_retD X70 hx Bd.returns (hb hby own_d4_15) hr)
  show Q_rm_fit Z o hd cs h0 n0 _ T70.heap _
  rw [e70]
  exact ⟨rfl, N0, rfl⟩
theorem own_pn1 : plainName "com/example/slotwright/slotwright/search/IndividualFitnessPinLaw" = true := by first | (simp [plainName, overriddenIn]; done) | decide +kernel
theorem own_ef_rm0 (m : MethodId) (j0 : Int64) (j1 : Int64) (j2 : Int64) (j3 : Int64) : entryFrame m #[(.long j0), (.long j1), (.long j2), (.long j3)] maxLocals = mkF m 0 #[.val (.long j0), .second, .val (.long j1), .second, .val (.long j2), .second, .val (.long j3), .second, .unset, .unset, .unset, .unset, .unset, .unset, .unset, .unset, .unset, .unset, .unset, .unset, .unset, .unset, .unset, .unset, .unset, .unset, .unset, .unset, .unset, .unset, .unset, .unset, .unset, .unset] [] := by first | (simp [entryFrame, mkF, argsToLocals, Value.category, maxLocals]; done) | rfl
def Q_rm0 (Z : State) (j0 : Int64) (j1 : Int64) (j2 : Int64) (j3 : Int64) (h0 : Heap) (n0 : Nat) (v : Option Value) (h : Heap) (L : List Loc) : Prop := v = some (.int 1) ∧ Fr n0 L
theorem own_pd0 : parseMethodDescriptor "(JJ)J" = some ⟨[.long, .long], some .long⟩ := by decide +kernel
theorem own_pd1 : parseMethodDescriptor "([I[IJJLcom/example/slotwright/slotwright/search/CourseCosts;Lcom/example/slotwright/slotwright/rules/BrokenLectures;)V" = some ⟨[(.array .int), (.array .int), .long, .long, (.object "com/example/slotwright/slotwright/search/CourseCosts"), (.object "com/example/slotwright/slotwright/rules/BrokenLectures")], none⟩ := by decide +kernel
theorem own_pd2 : parseMethodDescriptor "()D" = some ⟨[], some .double⟩ := by decide +kernel
set_option maxRecDepth 65536 in
set_option maxHeartbeats 40000000 in
theorem rm0 (l : Launch) (Z : State) (a0 : Array Value) (hw : ∀ d ∈ tables_1, d.before a0 Z = true) (ws : List Jvm.Cond) (j0 : Int64) (j1 : Int64) (j2 : Int64) (j3 : Int64) (h0 : Heap) (n0 : Nat) (Z0 : n0 ≤ h0.size)  :
    MetFree l x (head1 (Jvm.Cond.code x code maxLocals ret :: ws) room_1) (fun aa U => aa = #[(.long j0), (.long j1), (.long j2), (.long j3)] ∧ Z.Warmed39 U.vm ∧ U.heap = h0) (fun _ _ _ _ _ => True) (fun _ U ou U' => ∃ v L, ou = .returned v ∧ Q_rm0 Z j0 j1 j2 j3 h0 n0 v U'.heap L ∧ FrameEnd U ou U' L room_1.cells room_1.slots) := by
  refine MetFree.of_bodySF (plainFor_of_name own_pn1) hisR ?_
  intro p e s m args below meth c s₁ Bd hml0 hP hK
  obtain ⟨rfl, hZ, hh⟩ := hP
  have hx := Bd.exec
  have hby := Bd.bytes
  have hml : c.maxLocals = 34 := hml0
  have hown : s.vm.findClass "com/example/slotwright/slotwright/search/IndividualFitnessPinLaw" = some m.cls := findClass_of_methodNamed Bd.named
  have hnm := (name_of_methodNamed Bd.named Bd.method).1
  have X0 : Stand p l e room_1 s m #[(.long j0), (.long j1), (.long j2), (.long j3)] below meth c s₁ [] 0 0 := Stand.of_body Bd
  have e0 : s₁.heap = h0 := by rw [← hh, Bd.state]; rfl
  have N0 := Fr.nil n0
  show own_Go p e below (fun o u L => FrameEnd s o u L room_1.cells room_1.slots) (Q_rm0 Z j0 j1 j2 j3 h0 n0) (s₁.setTop (entryFrame m #[(.long j0), (.long j1), (.long j2), (.long j3)] maxLocals))
  rw [own_ef_rm0 m j0 j1 j2 j3]
  show own_Go _ _ _ _ _ (State.setTop _ (mkF _ 0 #[.val (.long j0), .second, .val (.long j1), .second, .val (.long j2), .second, .val (.long j3), .second, .unset, .unset, .unset, .unset, .unset, .unset, .unset, .unset, .unset, .unset, .unset, .unset, .unset, .unset, .unset, .unset, .unset, .unset, .unset, .unset, .unset, .unset, .unset, .unset, .unset, .unset] []))
  refine own_lloadN X0 hx 1 rfl (hb hby at_0) rfl ?_
  refine own_ldcJ X0 hx hZ hown (own_hw hw 0 rfl) 4 rfl (hb hby at_1) ?_
  refine own_land X0 hx 5 rfl (hb hby at_4) _ rfl ?_
  refine own_lstore X0 hx 7 rfl (hb hby at_5) #[.val (.long j0), .second, .val (.long j1), .second, .val (.long j2), .second, .val (.long j3), .second, .val (.long (j0 &&& (9223372036854775807 : Int64))), .second, .unset, .unset, .unset, .unset, .unset, .unset, .unset, .unset, .unset, .unset, .unset, .unset, .unset, .unset, .unset, .unset, .unset, .unset, .unset, .unset, .unset, .unset, .unset, .unset] rfl ?_
  show own_Go _ _ _ _ _ (State.setTop _ (mkF _ 7 #[.val (.long j0), .second, .val (.long j1), .second, .val (.long j2), .second, .val (.long j3), .second, .val (.long (own_m j0)), .second, .unset, .unset, .unset, .unset, .unset, .unset, .unset, .unset, .unset, .unset, .unset, .unset, .unset, .unset, .unset, .unset, .unset, .unset, .unset, .unset, .unset, .unset, .unset, .unset] []))
  refine own_lloadN X0 hx 8 rfl (hb hby at_7) rfl ?_
  refine own_ldcJ X0 hx hZ hown (own_hw hw 0 rfl) 11 rfl (hb hby at_8) ?_
  refine own_land X0 hx 12 rfl (hb hby at_11) _ rfl ?_
  refine own_lstore X0 hx 14 rfl (hb hby at_12) #[.val (.long j0), .second, .val (.long j1), .second, .val (.long j2), .second, .val (.long j3), .second, .val (.long (own_m j0)), .second, .val (.long (j1 &&& (9223372036854775807 : Int64))), .second, .unset, .unset, .unset, .unset, .unset, .unset, .unset, .unset, .unset, .unset, .unset, .unset, .unset, .unset, .unset, .unset, .unset, .unset, .unset, .unset, .unset, .unset] rfl ?_
  show own_Go _ _ _ _ _ (State.setTop _ (mkF _ 14 #[.val (.long j0), .second, .val (.long j1), .second, .val (.long j2), .second, .val (.long j3), .second, .val (.long (own_m j0)), .second, .val (.long (own_m j1)), .second, .unset, .unset, .unset, .unset, .unset, .unset, .unset, .unset, .unset, .unset, .unset, .unset, .unset, .unset, .unset, .unset, .unset, .unset, .unset, .unset, .unset, .unset] []))
  refine own_lload X0 hx 16 rfl (hb hby at_14) rfl ?_
  refine own_lload X0 hx 18 rfl (hb hby at_16) rfl ?_
  refine own_ldcJ X0 hx hZ hown (own_hw hw 0 rfl) 21 rfl (hb hby at_18) ?_
  refine own_land X0 hx 22 rfl (hb hby at_21) _ rfl ?_
  show own_Go _ _ _ _ _ (State.setTop _ (mkF _ 22 _ [(.long (own_m j2)), (.long (own_m j0))]))
  refine own_callS X0 hx hZ (y := (⟨"java/lang/Math", "max", "(JJ)J"⟩ : MethodName)) hown (own_hw hw 1 rfl) (own_hw hw 2 rfl) (by decide) (rm_maxJ l Z a0 hw [] (own_m j0) (own_m j2) (own_x j0 j2) h0 n0 Z0 rfl) (own_hw hw 4 rfl) (own_hw hw 3 rfl) (by decide) e0 (by rw [hml]; rfl) [(.long (own_m j0)), (.long (own_m j2))] 0 (by decide) (Nat.le_of_eq rfl) (by decide) (by decide) (lenOf own_pd0 rfl) rfl rfl 25 rfl (hb hby at_22) fun v71 T71 Lc71 X71 hQ71 => ?_
  obtain ⟨rfl, Nq71, e71⟩ := hQ71
  have N72 := Fr.app N0 Nq71
  show own_Go _ _ _ _ _ (State.setTop _ (mkF _ 25 _ [(.long (own_x j0 j2))]))
  refine own_lstore X71 hx 27 rfl (hb hby at_25) #[.val (.long j0), .second, .val (.long j1), .second, .val (.long j2), .second, .val (.long j3), .second, .val (.long (own_m j0)), .second, .val (.long (own_m j1)), .second, .val (.long (own_x j0 j2)), .second, .unset, .unset, .unset, .unset, .unset, .unset, .unset, .unset, .unset, .unset, .unset, .unset, .unset, .unset, .unset, .unset, .unset, .unset, .unset, .unset] rfl ?_
  refine own_lload X71 hx 29 rfl (hb hby at_27) rfl ?_
  refine own_lload X71 hx 31 rfl (hb hby at_29) rfl ?_
  refine own_ldcJ X71 hx hZ hown (own_hw hw 0 rfl) 34 rfl (hb hby at_31) ?_
  refine own_land X71 hx 35 rfl (hb hby at_34) _ rfl ?_
  show own_Go _ _ _ _ _ (State.setTop _ (mkF _ 35 _ [(.long (own_m j3)), (.long (own_m j1))]))
  refine own_callS X71 hx hZ (y := (⟨"java/lang/Math", "max", "(JJ)J"⟩ : MethodName)) hown (own_hw hw 1 rfl) (own_hw hw 2 rfl) (by decide) (rm_maxJ l Z a0 hw [] (own_m j1) (own_m j3) (own_x j1 j3) h0 n0 Z0 rfl) (own_hw hw 4 rfl) (own_hw hw 3 rfl) (by decide) e71 (by rw [hml]; rfl) [(.long (own_m j1)), (.long (own_m j3))] 0 (by decide) (Nat.le_of_eq rfl) (by decide) (by decide) (lenOf own_pd0 rfl) rfl rfl 38 rfl (hb hby at_35) fun v73 T73 Lc73 X73 hQ73 => ?_
  obtain ⟨rfl, Nq73, e73⟩ := hQ73
  have N74 := Fr.app N72 Nq73
  show own_Go _ _ _ _ _ (State.setTop _ (mkF _ 38 _ [(.long (own_x j1 j3))]))
  refine own_lstore X73 hx 40 rfl (hb hby at_38) #[.val (.long j0), .second, .val (.long j1), .second, .val (.long j2), .second, .val (.long j3), .second, .val (.long (own_m j0)), .second, .val (.long (own_m j1)), .second, .val (.long (own_x j0 j2)), .second, .val (.long (own_x j1 j3)), .second, .unset, .unset, .unset, .unset, .unset, .unset, .unset, .unset, .unset, .unset, .unset, .unset, .unset, .unset, .unset, .unset, .unset, .unset] rfl ?_
  refine own_lloadN X73 hx 41 rfl (hb hby at_40) rfl ?_
  refine own_ldcJ X73 hx hZ hown (own_hw hw 5 rfl) 44 rfl (hb hby at_41) ?_
  refine own_land X73 hx 45 rfl (hb hby at_44) _ rfl ?_
  refine own_lstore X73 hx 47 rfl (hb hby at_45) #[.val (.long j0), .second, .val (.long j1), .second, .val (.long j2), .second, .val (.long j3), .second, .val (.long (own_m j0)), .second, .val (.long (own_m j1)), .second, .val (.long (own_x j0 j2)), .second, .val (.long (own_x j1 j3)), .second, .val (.long (j0 &&& (1099511627775 : Int64))), .second, .unset, .unset, .unset, .unset, .unset, .unset, .unset, .unset, .unset, .unset, .unset, .unset, .unset, .unset, .unset, .unset] rfl ?_
  show own_Go _ _ _ _ _ (State.setTop _ (mkF _ 47 #[.val (.long j0), .second, .val (.long j1), .second, .val (.long j2), .second, .val (.long j3), .second, .val (.long (own_m j0)), .second, .val (.long (own_m j1)), .second, .val (.long (own_x j0 j2)), .second, .val (.long (own_x j1 j3)), .second, .val (.long (own_s j0)), .second, .unset, .unset, .unset, .unset, .unset, .unset, .unset, .unset, .unset, .unset, .unset, .unset, .unset, .unset, .unset, .unset] []))
  refine own_lloadN X73 hx 48 rfl (hb hby at_47) rfl ?_
  refine own_ldcJ X73 hx hZ hown (own_hw hw 5 rfl) 51 rfl (hb hby at_48) ?_
  refine own_land X73 hx 52 rfl (hb hby at_51) _ rfl ?_
  refine own_lstore X73 hx 54 rfl (hb hby at_52) #[.val (.long j0), .second, .val (.long j1), .second, .val (.long j2), .second, .val (.long j3), .second, .val (.long (own_m j0)), .second, .val (.long (own_m j1)), .second, .val (.long (own_x j0 j2)), .second, .val (.long (own_x j1 j3)), .second, .val (.long (own_s j0)), .second, .val (.long (j1 &&& (1099511627775 : Int64))), .second, .unset, .unset, .unset, .unset, .unset, .unset, .unset, .unset, .unset, .unset, .unset, .unset, .unset, .unset] rfl ?_
  show own_Go _ _ _ _ _ (State.setTop _ (mkF _ 54 #[.val (.long j0), .second, .val (.long j1), .second, .val (.long j2), .second, .val (.long j3), .second, .val (.long (own_m j0)), .second, .val (.long (own_m j1)), .second, .val (.long (own_x j0 j2)), .second, .val (.long (own_x j1 j3)), .second, .val (.long (own_s j0)), .second, .val (.long (own_s j1)), .second, .unset, .unset, .unset, .unset, .unset, .unset, .unset, .unset, .unset, .unset, .unset, .unset, .unset, .unset] []))
  refine own_iconst X73 hx 55 rfl (hb hby at_54) (0 : Int32) rfl ?_
  refine own_newA X73 hx hZ (own_hw hw 6 rfl) e73 57 rfl (hb hby at_55) (by decide) 0 (by decide) (by decide) (by decide) (by decide) "[I" (by decide) fun T75 h75 k75 b75 g75 X75 e75 E75 A75 C75 => ?_
  have ge76 : n0 ≤ b75 := Nat.le_trans Z0 (Nat.le_of_eq g75.symm)
  have z77 := Nat.le_trans Z0 E75.1
  have f78 : Arv Z h75 b75 k75 .int (0 : Int32) [] (.int (0 : Int32)) := Arv.new A75 (by decide)
  refine own_astore X75 hx 59 rfl (hb hby at_57) rfl #[.val (.long j0), .second, .val (.long j1), .second, .val (.long j2), .second, .val (.long j3), .second, .val (.long (own_m j0)), .second, .val (.long (own_m j1)), .second, .val (.long (own_x j0 j2)), .second, .val (.long (own_x j1 j3)), .second, .val (.long (own_s j0)), .second, .val (.long (own_s j1)), .second, .val (.ref b75), .unset, .unset, .unset, .unset, .unset, .unset, .unset, .unset, .unset, .unset, .unset, .unset, .unset] rfl ?_
  refine own_new X75 hx hZ hown (own_hw hw 7 rfl) (own_hw hw 8 rfl) (own_hw hw 9 rfl) e75 62 rfl (hb hby at_59) (by decide) (by decide) fun T79 h79 b79 g79 X79 e79 E79 A79 D79 => ?_
  have ne80 : b75 ≠ b79 := Nat.ne_of_lt (Nat.lt_of_lt_of_le C75.lt (Nat.le_of_eq g79.symm))
  have ge81 : n0 ≤ b79 := Nat.le_trans z77 (Nat.le_of_eq g79.symm)
  have f82 := C75.ext E79
  have f83 := f78.ext E79
  have z84 := Nat.le_trans z77 E79.1
  have f85 : Fld Z h79 b79 "com/example/slotwright/slotwright/search/Individual" "rooms" "[I" .null := D79 (Or.inr (own_hw hw 17 rfl)) (ty := (.array .int)) (by decide)
  have f86 : Fld Z h79 b79 "com/example/slotwright/slotwright/search/Individual" "periods" "[I" .null := D79 (Or.inr (own_hw hw 19 rfl)) (ty := (.array .int)) (by decide)
  have f87 : Fld Z h79 b79 "com/example/slotwright/slotwright/search/Individual" "hard" "J" (.long (0 : Int64)) := D79 (Or.inr (own_hw hw 21 rfl)) (ty := .long) (by decide)
  have f88 : Fld Z h79 b79 "com/example/slotwright/slotwright/search/Individual" "cost" "J" (.long (0 : Int64)) := D79 (Or.inr (own_hw hw 23 rfl)) (ty := .long) (by decide)
  have f89 : Fld Z h79 b79 "com/example/slotwright/slotwright/search/Individual" "courseCosts" "Lcom/example/slotwright/slotwright/search/CourseCosts;" .null := D79 (Or.inr (own_hw hw 25 rfl)) (ty := (.object "com/example/slotwright/slotwright/search/CourseCosts")) (by decide)
  have f90 : Fld Z h79 b79 "com/example/slotwright/slotwright/search/Individual" "hardMarks" "Lcom/example/slotwright/slotwright/rules/BrokenLectures;" .null := D79 (Or.inr (own_hw hw 27 rfl)) (ty := (.object "com/example/slotwright/slotwright/rules/BrokenLectures")) (by decide)
  refine own_dup X79 hx 63 rfl (hb hby at_62) rfl ?_
  refine own_aload X79 hx 65 rfl (hb hby at_63) rfl rfl ?_
  refine own_aload X79 hx 67 rfl (hb hby at_65) rfl rfl ?_
  refine own_lload X79 hx 69 rfl (hb hby at_67) rfl ?_
  refine own_lload X79 hx 71 rfl (hb hby at_69) rfl ?_
  refine own_aconst_null X79 hx 72 rfl (hb hby at_71) ?_
  refine own_aconst_null X79 hx 73 rfl (hb hby at_72) ?_
  refine own_special X79 hx hZ (y := (⟨"com/example/slotwright/slotwright/search/Individual", "<init>", "([I[IJJLcom/example/slotwright/slotwright/search/CourseCosts;Lcom/example/slotwright/slotwright/rules/BrokenLectures;)V"⟩ : MethodName)) hown rfl (own_hw hw 10 rfl) (own_hw hw 11 rfl) (a := b79) (by decide) rfl (rm_init l Z a0 hw [] b79 b75 b75 (own_m j0) (own_m j1) h79 n0 z84 A79 f85 f86 f87 f88 f89 f90 ge81) (own_hw hw 12 rfl) (own_hw hw 9 rfl) (by decide) e79 (by rw [hml]; rfl) [(.ref b75), (.ref b75), (.long (own_m j0)), (.long (own_m j1)), .null, .null] 1 (by decide) (Nat.le_of_eq rfl) (by decide) (by decide) (lenOf own_pd1 rfl) rfl rfl 76 rfl (hb hby at_73) fun v91 T91 Lc91 X91 hQ91 => ?_
  obtain ⟨rfl, Nq91, Kq91, f92, f93, f94, f95, f96, f97, f98⟩ := hQ91
  have N99 := Fr.app N74 Nq91
  have f100 := f82.keep Kq91
  have f101 := f83.keep Kq91 (ninS ne80 nin0)
  have f102 := A79.keep Kq91
  have z109 := Nat.le_trans z84 Kq91.1
  show own_Go _ _ _ _ _ (State.setTop _ (mkF _ 76 _ [(.ref b79)]))
  refine own_astore X91 hx 78 rfl (hb hby at_76) rfl #[.val (.long j0), .second, .val (.long j1), .second, .val (.long j2), .second, .val (.long j3), .second, .val (.long (own_m j0)), .second, .val (.long (own_m j1)), .second, .val (.long (own_x j0 j2)), .second, .val (.long (own_x j1 j3)), .second, .val (.long (own_s j0)), .second, .val (.long (own_s j1)), .second, .val (.ref b75), .val (.ref b79), .unset, .unset, .unset, .unset, .unset, .unset, .unset, .unset, .unset, .unset, .unset, .unset] rfl ?_
  refine own_new X91 hx hZ hown (own_hw hw 7 rfl) (own_hw hw 8 rfl) (own_hw hw 9 rfl) rfl 81 rfl (hb hby at_78) (by decide) (by decide) fun T110 h110 b110 g110 X110 e110 E110 A110 D110 => ?_
  have ne111 : b75 ≠ b110 := Nat.ne_of_lt (Nat.lt_of_lt_of_le f100.lt (Nat.le_of_eq g110.symm))
  have ne112 : b79 ≠ b110 := Nat.ne_of_lt (Nat.lt_of_lt_of_le f92.lt (Nat.le_of_eq g110.symm))
  have ge113 : n0 ≤ b110 := Nat.le_trans z109 (Nat.le_of_eq g110.symm)
  have f114 := f100.ext E110
  have f115 := f101.ext E110
  have f116 := f92.ext E110
  have f117 := f95.ext E110
  have f118 := f96.ext E110
  have z119 := Nat.le_trans z109 E110.1
  have f120 : Fld Z h110 b110 "com/example/slotwright/slotwright/search/Individual" "rooms" "[I" .null := D110 (Or.inr (own_hw hw 17 rfl)) (ty := (.array .int)) (by decide)
  have f121 : Fld Z h110 b110 "com/example/slotwright/slotwright/search/Individual" "periods" "[I" .null := D110 (Or.inr (own_hw hw 19 rfl)) (ty := (.array .int)) (by decide)
  have f122 : Fld Z h110 b110 "com/example/slotwright/slotwright/search/Individual" "hard" "J" (.long (0 : Int64)) := D110 (Or.inr (own_hw hw 21 rfl)) (ty := .long) (by decide)
  have f123 : Fld Z h110 b110 "com/example/slotwright/slotwright/search/Individual" "cost" "J" (.long (0 : Int64)) := D110 (Or.inr (own_hw hw 23 rfl)) (ty := .long) (by decide)
  have f124 : Fld Z h110 b110 "com/example/slotwright/slotwright/search/Individual" "courseCosts" "Lcom/example/slotwright/slotwright/search/CourseCosts;" .null := D110 (Or.inr (own_hw hw 25 rfl)) (ty := (.object "com/example/slotwright/slotwright/search/CourseCosts")) (by decide)
  have f125 : Fld Z h110 b110 "com/example/slotwright/slotwright/search/Individual" "hardMarks" "Lcom/example/slotwright/slotwright/rules/BrokenLectures;" .null := D110 (Or.inr (own_hw hw 27 rfl)) (ty := (.object "com/example/slotwright/slotwright/rules/BrokenLectures")) (by decide)
  refine own_dup X110 hx 82 rfl (hb hby at_81) rfl ?_
  refine own_aload X110 hx 84 rfl (hb hby at_82) rfl rfl ?_
  refine own_aload X110 hx 86 rfl (hb hby at_84) rfl rfl ?_
  refine own_lload X110 hx 88 rfl (hb hby at_86) rfl ?_
  refine own_lload X110 hx 90 rfl (hb hby at_88) rfl ?_
  refine own_aconst_null X110 hx 91 rfl (hb hby at_90) ?_
  refine own_aconst_null X110 hx 92 rfl (hb hby at_91) ?_
  refine own_special X110 hx hZ (y := (⟨"com/example/slotwright/slotwright/search/Individual", "<init>", "([I[IJJLcom/example/slotwright/slotwright/search/CourseCosts;Lcom/example/slotwright/slotwright/rules/BrokenLectures;)V"⟩ : MethodName)) hown rfl (own_hw hw 10 rfl) (own_hw hw 11 rfl) (a := b110) (by decide) rfl (rm_init l Z a0 hw [] b110 b75 b75 (own_x j0 j2) (own_x j1 j3) h110 n0 z119 A110 f120 f121 f122 f123 f124 f125 ge113) (own_hw hw 12 rfl) (own_hw hw 9 rfl) (by decide) e110 (by rw [hml]; rfl) [(.ref b75), (.ref b75), (.long (own_x j0 j2)), (.long (own_x j1 j3)), .null, .null] 1 (by decide) (Nat.le_of_eq rfl) (by decide) (by decide) (lenOf own_pd1 rfl) rfl rfl 95 rfl (hb hby at_92) fun v126 T126 Lc126 X126 hQ126 => ?_
  obtain ⟨rfl, Nq126, Kq126, f127, f128, f129, f130, f131, f132, f133⟩ := hQ126
  have N134 := Fr.app N99 Nq126
  have f135 := f114.keep Kq126
  have f136 := f115.keep Kq126 (ninS ne111 nin0)
  have f137 := f116.keep Kq126
  have f138 := f117.keep Kq126 (ninS ne112 nin0)
  have f139 := f118.keep Kq126 (ninS ne112 nin0)
  have f140 := A110.keep Kq126
  have z147 := Nat.le_trans z119 Kq126.1
  show own_Go _ _ _ _ _ (State.setTop _ (mkF _ 95 _ [(.ref b110)]))
  refine own_astore X126 hx 97 rfl (hb hby at_95) rfl #[.val (.long j0), .second, .val (.long j1), .second, .val (.long j2), .second, .val (.long j3), .second, .val (.long (own_m j0)), .second, .val (.long (own_m j1)), .second, .val (.long (own_x j0 j2)), .second, .val (.long (own_x j1 j3)), .second, .val (.long (own_s j0)), .second, .val (.long (own_s j1)), .second, .val (.ref b75), .val (.ref b79), .val (.ref b110), .unset, .unset, .unset, .unset, .unset, .unset, .unset, .unset, .unset, .unset, .unset] rfl ?_
  refine own_new X126 hx hZ hown (own_hw hw 7 rfl) (own_hw hw 8 rfl) (own_hw hw 9 rfl) rfl 100 rfl (hb hby at_97) (by decide) (by decide) fun T148 h148 b148 g148 X148 e148 E148 A148 D148 => ?_
  have ne149 : b75 ≠ b148 := Nat.ne_of_lt (Nat.lt_of_lt_of_le f135.lt (Nat.le_of_eq g148.symm))
  have ne150 : b79 ≠ b148 := Nat.ne_of_lt (Nat.lt_of_lt_of_le f137.lt (Nat.le_of_eq g148.symm))
  have ne151 : b110 ≠ b148 := Nat.ne_of_lt (Nat.lt_of_lt_of_le f127.lt (Nat.le_of_eq g148.symm))
  have ge152 : n0 ≤ b148 := Nat.le_trans z147 (Nat.le_of_eq g148.symm)
  have f153 := f135.ext E148
  have f154 := f136.ext E148
  have f155 := f137.ext E148
  have f156 := f138.ext E148
  have f157 := f139.ext E148
  have f158 := f127.ext E148
  have f159 := f130.ext E148
  have f160 := f131.ext E148
  have z161 := Nat.le_trans z147 E148.1
  have f162 : Fld Z h148 b148 "com/example/slotwright/slotwright/search/Individual" "rooms" "[I" .null := D148 (Or.inr (own_hw hw 17 rfl)) (ty := (.array .int)) (by decide)
  have f163 : Fld Z h148 b148 "com/example/slotwright/slotwright/search/Individual" "periods" "[I" .null := D148 (Or.inr (own_hw hw 19 rfl)) (ty := (.array .int)) (by decide)
  have f164 : Fld Z h148 b148 "com/example/slotwright/slotwright/search/Individual" "hard" "J" (.long (0 : Int64)) := D148 (Or.inr (own_hw hw 21 rfl)) (ty := .long) (by decide)
  have f165 : Fld Z h148 b148 "com/example/slotwright/slotwright/search/Individual" "cost" "J" (.long (0 : Int64)) := D148 (Or.inr (own_hw hw 23 rfl)) (ty := .long) (by decide)
  have f166 : Fld Z h148 b148 "com/example/slotwright/slotwright/search/Individual" "courseCosts" "Lcom/example/slotwright/slotwright/search/CourseCosts;" .null := D148 (Or.inr (own_hw hw 25 rfl)) (ty := (.object "com/example/slotwright/slotwright/search/CourseCosts")) (by decide)
  have f167 : Fld Z h148 b148 "com/example/slotwright/slotwright/search/Individual" "hardMarks" "Lcom/example/slotwright/slotwright/rules/BrokenLectures;" .null := D148 (Or.inr (own_hw hw 27 rfl)) (ty := (.object "com/example/slotwright/slotwright/rules/BrokenLectures")) (by decide)
  refine own_dup X148 hx 101 rfl (hb hby at_100) rfl ?_
  refine own_aload X148 hx 103 rfl (hb hby at_101) rfl rfl ?_
  refine own_aload X148 hx 105 rfl (hb hby at_103) rfl rfl ?_
  refine own_lload X148 hx 107 rfl (hb hby at_105) rfl ?_
  refine own_lload X148 hx 109 rfl (hb hby at_107) rfl ?_
  refine own_aconst_null X148 hx 110 rfl (hb hby at_109) ?_
  refine own_aconst_null X148 hx 111 rfl (hb hby at_110) ?_
  refine own_special X148 hx hZ (y := (⟨"com/example/slotwright/slotwright/search/Individual", "<init>", "([I[IJJLcom/example/slotwright/slotwright/search/CourseCosts;Lcom/example/slotwright/slotwright/rules/BrokenLectures;)V"⟩ : MethodName)) hown rfl (own_hw hw 10 rfl) (own_hw hw 11 rfl) (a := b148) (by decide) rfl (rm_init l Z a0 hw [] b148 b75 b75 (own_s j0) (own_s j1) h148 n0 z161 A148 f162 f163 f164 f165 f166 f167 ge152) (own_hw hw 12 rfl) (own_hw hw 9 rfl) (by decide) e148 (by rw [hml]; rfl) [(.ref b75), (.ref b75), (.long (own_s j0)), (.long (own_s j1)), .null, .null] 1 (by decide) (Nat.le_of_eq rfl) (by decide) (by decide) (lenOf own_pd1 rfl) rfl rfl 114 rfl (hb hby at_111) fun v168 T168 Lc168 X168 hQ168 => ?_
  obtain ⟨rfl, Nq168, Kq168, f169, f170, f171, f172, f173, f174, f175⟩ := hQ168
  have N176 := Fr.app N134 Nq168
  have f177 := f153.keep Kq168
  have f178 := f154.keep Kq168 (ninS ne149 nin0)
  have f179 := f155.keep Kq168
  have f180 := f156.keep Kq168 (ninS ne150 nin0)
  have f181 := f157.keep Kq168 (ninS ne150 nin0)
  have f182 := f158.keep Kq168
  have f183 := f159.keep Kq168 (ninS ne151 nin0)
  have f184 := f160.keep Kq168 (ninS ne151 nin0)
  have f185 := A148.keep Kq168
  have z192 := Nat.le_trans z161 Kq168.1
  show own_Go _ _ _ _ _ (State.setTop _ (mkF _ 114 _ [(.ref b148)]))
  refine own_astore X168 hx 116 rfl (hb hby at_114) rfl #[.val (.long j0), .second, .val (.long j1), .second, .val (.long j2), .second, .val (.long j3), .second, .val (.long (own_m j0)), .second, .val (.long (own_m j1)), .second, .val (.long (own_x j0 j2)), .second, .val (.long (own_x j1 j3)), .second, .val (.long (own_s j0)), .second, .val (.long (own_s j1)), .second, .val (.ref b75), .val (.ref b79), .val (.ref b110), .val (.ref b148), .unset, .unset, .unset, .unset, .unset, .unset, .unset, .unset, .unset, .unset] rfl ?_
  refine own_aload X168 hx 118 rfl (hb hby at_116) rfl rfl ?_
  refine own_virtual X168 hx hZ (y := (⟨"com/example/slotwright/slotwright/search/Individual", "fitness", "()D"⟩ : MethodName)) (z := (⟨"com/example/slotwright/slotwright/search/Individual", "fitness", "()D"⟩ : MethodName)) hown (own_hw hw 28 rfl) (own_hw hw 29 rfl) (own_hw hw 31 rfl) (own_hw hw 30 rfl) rfl (a := b79) f179 (by decide) (rm_fit l Z a0 hw [] b79 (own_m j0) (own_m j1) T168.heap n0 z192 f180 f181 (own_nn_of (own_D1_nn (own_m_ge j0))) (own_nn_of (own_D_nn (own_m_ge j0) (own_m_ge j1))) (own_nn_of (own_fit_nn (own_m_ge j0) (own_m_ge j1)).1)) (own_hw hw 32 rfl) (own_hw hw 9 rfl) (by decide) rfl (by rw [hml]; rfl) [] 0 (by decide) (Nat.le_of_eq rfl) (by decide) (by decide) (lenOf own_pd2 rfl) rfl rfl 121 rfl (hb hby at_118) fun v193 T193 Lc193 X193 hQ193 => ?_
  obtain ⟨rfl, Nq193, e193⟩ := hQ193
  have N194 := Fr.app N176 Nq193
  show own_Go _ _ _ _ _ (State.setTop _ (mkF _ 121 _ [(.double (own_fit (own_m j0) (own_m j1)))]))
  refine own_dstore X193 hx 123 rfl (hb hby at_121) #[.val (.long j0), .second, .val (.long j1), .second, .val (.long j2), .second, .val (.long j3), .second, .val (.long (own_m j0)), .second, .val (.long (own_m j1)), .second, .val (.long (own_x j0 j2)), .second, .val (.long (own_x j1 j3)), .second, .val (.long (own_s j0)), .second, .val (.long (own_s j1)), .second, .val (.ref b75), .val (.ref b79), .val (.ref b110), .val (.ref b148), .val (.double (own_fit (own_m j0) (own_m j1))), .second, .unset, .unset, .unset, .unset, .unset, .unset, .unset, .unset] rfl ?_
  refine own_aload X193 hx 125 rfl (hb hby at_123) rfl rfl ?_
  refine own_virtual X193 hx hZ (y := (⟨"com/example/slotwright/slotwright/search/Individual", "fitness", "()D"⟩ : MethodName)) (z := (⟨"com/example/slotwright/slotwright/search/Individual", "fitness", "()D"⟩ : MethodName)) hown (own_hw hw 28 rfl) (own_hw hw 29 rfl) (own_hw hw 31 rfl) (own_hw hw 30 rfl) rfl (a := b110) f182 (by decide) (rm_fit l Z a0 hw [] b110 (own_x j0 j2) (own_x j1 j3) T168.heap n0 z192 f183 f184 (own_nn_of (own_D1_nn (own_x0 j0 j2))) (own_nn_of (own_D_nn (own_x0 j0 j2) (own_x0 j1 j3))) (own_nn_of (own_fit_nn (own_x0 j0 j2) (own_x0 j1 j3)).1)) (own_hw hw 32 rfl) (own_hw hw 9 rfl) (by decide) e193 (by rw [hml]; rfl) [] 0 (by decide) (Nat.le_of_eq rfl) (by decide) (by decide) (lenOf own_pd2 rfl) rfl rfl 128 rfl (hb hby at_125) fun v195 T195 Lc195 X195 hQ195 => ?_
  obtain ⟨rfl, Nq195, e195⟩ := hQ195
  have N196 := Fr.app N194 Nq195
  show own_Go _ _ _ _ _ (State.setTop _ (mkF _ 128 _ [(.double (own_fit (own_x j0 j2) (own_x j1 j3)))]))
  refine own_dstore X195 hx 130 rfl (hb hby at_128) #[.val (.long j0), .second, .val (.long j1), .second, .val (.long j2), .second, .val (.long j3), .second, .val (.long (own_m j0)), .second, .val (.long (own_m j1)), .second, .val (.long (own_x j0 j2)), .second, .val (.long (own_x j1 j3)), .second, .val (.long (own_s j0)), .second, .val (.long (own_s j1)), .second, .val (.ref b75), .val (.ref b79), .val (.ref b110), .val (.ref b148), .val (.double (own_fit (own_m j0) (own_m j1))), .second, .val (.double (own_fit (own_x j0 j2) (own_x j1 j3))), .second, .unset, .unset, .unset, .unset, .unset, .unset] rfl ?_
  refine own_aload X195 hx 132 rfl (hb hby at_130) rfl rfl ?_
  refine own_virtual X195 hx hZ (y := (⟨"com/example/slotwright/slotwright/search/Individual", "fitness", "()D"⟩ : MethodName)) (z := (⟨"com/example/slotwright/slotwright/search/Individual", "fitness", "()D"⟩ : MethodName)) hown (own_hw hw 28 rfl) (own_hw hw 29 rfl) (own_hw hw 31 rfl) (own_hw hw 30 rfl) rfl (a := b148) f169 (by decide) (rm_fit l Z a0 hw [] b148 (own_s j0) (own_s j1) T168.heap n0 z192 f172 f173 (own_nn_of (own_D1_nn (own_s_rng j0).1)) (own_nn_of (own_D_nn (own_s_rng j0).1 (own_s_rng j1).1)) (own_nn_of (own_fit_nn (own_s_rng j0).1 (own_s_rng j1).1).1)) (own_hw hw 32 rfl) (own_hw hw 9 rfl) (by decide) e195 (by rw [hml]; rfl) [] 0 (by decide) (Nat.le_of_eq rfl) (by decide) (by decide) (lenOf own_pd2 rfl) rfl rfl 135 rfl (hb hby at_132) fun v197 T197 Lc197 X197 hQ197 => ?_
  obtain ⟨rfl, Nq197, e197⟩ := hQ197
  have N198 := Fr.app N196 Nq197
  show own_Go _ _ _ _ _ (State.setTop _ (mkF _ 135 _ [(.double (own_fit (own_s j0) (own_s j1)))]))
  refine own_dstore X197 hx 137 rfl (hb hby at_135) #[.val (.long j0), .second, .val (.long j1), .second, .val (.long j2), .second, .val (.long j3), .second, .val (.long (own_m j0)), .second, .val (.long (own_m j1)), .second, .val (.long (own_x j0 j2)), .second, .val (.long (own_x j1 j3)), .second, .val (.long (own_s j0)), .second, .val (.long (own_s j1)), .second, .val (.ref b75), .val (.ref b79), .val (.ref b110), .val (.ref b148), .val (.double (own_fit (own_m j0) (own_m j1))), .second, .val (.double (own_fit (own_x j0 j2) (own_x j1 j3))), .second, .val (.double (own_fit (own_s j0) (own_s j1))), .second, .unset, .unset, .unset, .unset] rfl ?_
  refine own_dload X197 hx 139 rfl (hb hby at_137) rfl ?_
  refine own_dconst0 X197 hx 140 rfl (hb hby at_139) ?_
  refine own_dcmp X197 hx 141 rfl (hb hby at_140) (1 : Int32) (own_cmp_gt (own_fit_nn (own_m_ge j0) (own_m_ge j1)).1 own_is.zero.val (by rw [own_is.zero.z, Int.zero_mul]; exact own_fit_pos (own_m_ge j0) (own_m_ge j1)) .l) ?_
  refine own_ifNo X197 hx 144 rfl (hb hby at_141) (by decide) ?_
  refine own_dload X197 hx 146 rfl (hb hby at_144) rfl ?_
  refine own_dconst1 X197 hx 147 rfl (hb hby at_146) ?_
  refine own_dcmp X197 hx 148 rfl (hb hby at_147) _ rfl ?_
  refine own_ifNo X197 hx 151 rfl (hb hby at_148) ((if0 _ _).trans (flt (own_cmp_le (own_fit_nn (own_m_ge j0) (own_m_ge j1)).1 own_is.one.val (own_fit_le1 (own_m_ge j0) (own_m_ge j1)) .g)).2.2.1) ?_
  refine own_dload X197 hx 153 rfl (hb hby at_151) rfl ?_
  refine own_dconst0 X197 hx 154 rfl (hb hby at_153) ?_
  refine own_dcmp X197 hx 155 rfl (hb hby at_154) (1 : Int32) (own_cmp_gt (own_fit_nn (own_x0 j0 j2) (own_x0 j1 j3)).1 own_is.zero.val (by rw [own_is.zero.z, Int.zero_mul]; exact own_fit_pos (own_x0 j0 j2) (own_x0 j1 j3)) .l) ?_
  refine own_ifNo X197 hx 158 rfl (hb hby at_155) (by decide) ?_
  refine own_dload X197 hx 160 rfl (hb hby at_158) rfl ?_
  refine own_dconst1 X197 hx 161 rfl (hb hby at_160) ?_
  refine own_dcmp X197 hx 162 rfl (hb hby at_161) _ rfl ?_
  refine own_ifNo X197 hx 165 rfl (hb hby at_162) ((if0 _ _).trans (flt (own_cmp_le (own_fit_nn (own_x0 j0 j2) (own_x0 j1 j3)).1 own_is.one.val (own_fit_le1 (own_x0 j0 j2) (own_x0 j1 j3)) .g)).2.2.1) ?_
  refine own_iconst X197 hx 166 rfl (hb hby at_165) (1 : Int32) rfl ?_
  refine own_goto X197 hx 170 (hb hby at_166) (by decide) rfl ?_
  refine own_istore X197 hx 172 rfl (hb hby at_170) #[.val (.long j0), .second, .val (.long j1), .second, .val (.long j2), .second, .val (.long j3), .second, .val (.long (own_m j0)), .second, .val (.long (own_m j1)), .second, .val (.long (own_x j0 j2)), .second, .val (.long (own_x j1 j3)), .second, .val (.long (own_s j0)), .second, .val (.long (own_s j1)), .second, .val (.ref b75), .val (.ref b79), .val (.ref b110), .val (.ref b148), .val (.double (own_fit (own_m j0) (own_m j1))), .second, .val (.double (own_fit (own_x j0 j2) (own_x j1 j3))), .second, .val (.double (own_fit (own_s j0) (own_s j1))), .second, .val (.int (1 : Int32)), .unset, .unset, .unset] rfl ?_
  by_cases hc199 : (own_m j0) = (0 : Int64)
  ·
    by_cases hc200 : (own_m j1) = (0 : Int64)
    ·
      refine own_dload X197 hx 174 rfl (hb hby at_172) rfl ?_
      refine own_dconst1 X197 hx 175 rfl (hb hby at_174) ?_
      refine own_dcmp X197 hx 176 rfl (hb hby at_175) (0 : Int32) ((own_fit1 (own_z0 hc199) (own_z0 hc200)).ceq own_is.one rfl .l) ?_
      refine own_ifNo X197 hx 179 rfl (hb hby at_176) (by decide) ?_
      refine own_iconst X197 hx 180 rfl (hb hby at_179) (1 : Int32) rfl ?_
      refine own_goto X197 hx 184 (hb hby at_180) (by decide) rfl ?_
      refine own_lload X197 hx 186 rfl (hb hby at_184) rfl ?_
      refine own_lconst X197 hx 187 rfl (hb hby at_186) (0 : Int64) rfl ?_
      refine own_lcmp X197 hx 188 rfl (hb hby at_187) _ rfl ?_
      refine own_ifNo X197 hx 191 rfl (hb hby at_188) ((if0 _ _).trans (teq ((lw_eq _ _).mpr hc199)).2) ?_
      refine own_lload X197 hx 193 rfl (hb hby at_191) rfl ?_
      refine own_lconst X197 hx 194 rfl (hb hby at_193) (0 : Int64) rfl ?_
      refine own_lcmp X197 hx 195 rfl (hb hby at_194) _ rfl ?_
      refine own_ifNo X197 hx 198 rfl (hb hby at_195) ((if0 _ _).trans (teq ((lw_eq _ _).mpr hc200)).2) ?_
      refine own_iconst X197 hx 199 rfl (hb hby at_198) (1 : Int32) rfl ?_
      refine own_goto X197 hx 203 (hb hby at_199) (by decide) rfl ?_
      refine own_icmpNo X197 hx 206 rfl (hb hby at_203) (by decide) ?_
      refine own_iconst X197 hx 207 rfl (hb hby at_206) (1 : Int32) rfl ?_
      refine own_goto X197 hx 211 (hb hby at_207) (by decide) rfl ?_
      refine own_istore X197 hx 213 rfl (hb hby at_211) #[.val (.long j0), .second, .val (.long j1), .second, .val (.long j2), .second, .val (.long j3), .second, .val (.long (own_m j0)), .second, .val (.long (own_m j1)), .second, .val (.long (own_x j0 j2)), .second, .val (.long (own_x j1 j3)), .second, .val (.long (own_s j0)), .second, .val (.long (own_s j1)), .second, .val (.ref b75), .val (.ref b79), .val (.ref b110), .val (.ref b148), .val (.double (own_fit (own_m j0) (own_m j1))), .second, .val (.double (own_fit (own_x j0 j2) (own_x j1 j3))), .second, .val (.double (own_fit (own_s j0) (own_s j1))), .second, .val (.int (1 : Int32)), .val (.int (1 : Int32)), .unset, .unset] rfl ?_
      refine own_dload X197 hx 215 rfl (hb hby at_213) rfl ?_
      refine own_dload X197 hx 217 rfl (hb hby at_215) rfl ?_
      refine own_dcmp X197 hx 218 rfl (hb hby at_217) _ rfl ?_
      refine own_ifNo X197 hx 221 rfl (hb hby at_218) ((if0 _ _).trans (flt (own_cmp_le (own_fit_nn (own_x0 j0 j2) (own_x0 j1 j3)).1 (own_fit_nn (own_m_ge j0) (own_m_ge j1)).1 (own_mono (own_m_ge j0) (own_m_ge j1) (own_x_ge j0 j2) (own_x_ge j1 j3)) .g)).2.2.1) ?_
      refine own_iconst X197 hx 222 rfl (hb hby at_221) (1 : Int32) rfl ?_
      refine own_goto X197 hx 226 (hb hby at_222) (by decide) rfl ?_
      refine own_istore X197 hx 228 rfl (hb hby at_226) #[.val (.long j0), .second, .val (.long j1), .second, .val (.long j2), .second, .val (.long j3), .second, .val (.long (own_m j0)), .second, .val (.long (own_m j1)), .second, .val (.long (own_x j0 j2)), .second, .val (.long (own_x j1 j3)), .second, .val (.long (own_s j0)), .second, .val (.long (own_s j1)), .second, .val (.ref b75), .val (.ref b79), .val (.ref b110), .val (.ref b148), .val (.double (own_fit (own_m j0) (own_m j1))), .second, .val (.double (own_fit (own_x j0 j2) (own_x j1 j3))), .second, .val (.double (own_fit (own_s j0) (own_s j1))), .second, .val (.int (1 : Int32)), .val (.int (1 : Int32)), .val (.int (1 : Int32)), .unset] rfl ?_
      refine own_dload X197 hx 230 rfl (hb hby at_228) rfl ?_
      refine own_dconst1 X197 hx 231 rfl (hb hby at_230) ?_
      refine own_lconst X197 hx 232 rfl (hb hby at_231) (1 : Int64) rfl ?_
      refine own_lload X197 hx 234 rfl (hb hby at_232) rfl ?_
      refine own_ladd X197 hx 235 rfl (hb hby at_234) _ rfl ?_
      refine own_lload X197 hx 237 rfl (hb hby at_235) rfl ?_
      refine own_ladd X197 hx 238 rfl (hb hby at_237) _ rfl ?_
      refine own_l2d X197 hx 239 rfl (hb hby at_238) _ rfl ?_
      refine own_ddiv X197 hx 240 rfl (hb hby at_239) (own_nn_of (own_exact rfl (own_s_rng j0).1 (own_s_rng j0).2 rfl (own_s_rng j1).1 (own_s_rng j1).2).1) _ rfl ?_
      refine own_dcmp X197 hx 241 rfl (hb hby at_240) (0 : Int32) (own_cmp_eq (own_fit_nn (own_s_rng j0).1 (own_s_rng j1).1).1 (own_exact rfl (own_s_rng j0).1 (own_s_rng j0).2 rfl (own_s_rng j1).1 (own_s_rng j1).2).1 (own_exact rfl (own_s_rng j0).1 (own_s_rng j0).2 rfl (own_s_rng j1).1 (own_s_rng j1).2).2 .l) ?_
      refine own_ifNo X197 hx 244 rfl (hb hby at_241) (by decide) ?_
      refine own_iconst X197 hx 245 rfl (hb hby at_244) (1 : Int32) rfl ?_
      refine own_goto X197 hx 249 (hb hby at_245) (by decide) rfl ?_
      refine own_istore X197 hx 251 rfl (hb hby at_249) #[.val (.long j0), .second, .val (.long j1), .second, .val (.long j2), .second, .val (.long j3), .second, .val (.long (own_m j0)), .second, .val (.long (own_m j1)), .second, .val (.long (own_x j0 j2)), .second, .val (.long (own_x j1 j3)), .second, .val (.long (own_s j0)), .second, .val (.long (own_s j1)), .second, .val (.ref b75), .val (.ref b79), .val (.ref b110), .val (.ref b148), .val (.double (own_fit (own_m j0) (own_m j1))), .second, .val (.double (own_fit (own_x j0 j2) (own_x j1 j3))), .second, .val (.double (own_fit (own_s j0) (own_s j1))), .second, .val (.int (1 : Int32)), .val (.int (1 : Int32)), .val (.int (1 : Int32)), .val (.int (1 : Int32))] rfl ?_
      refine own_iload X197 hx 253 rfl (hb hby at_251) rfl ?_
      refine own_ifNo X197 hx 256 rfl (hb hby at_253) (by decide) ?_
      refine own_iload X197 hx 258 rfl (hb hby at_256) rfl ?_
      refine own_ifNo X197 hx 261 rfl (hb hby at_258) (by decide) ?_
      refine own_iload X197 hx 263 rfl (hb hby at_261) rfl ?_
      refine own_ifNo X197 hx 266 rfl (hb hby at_263) (by decide) ?_
      refine own_iload X197 hx 268 rfl (hb hby at_266) rfl ?_
      refine own_ifNo X197 hx 271 rfl (hb hby at_268) (by decide) ?_
      refine own_iconst X197 hx 272 rfl (hb hby at_271) (1 : Int32) rfl ?_
      refine own_goto X197 hx 276 (hb hby at_272) (by decide) rfl ?_
      refine own_ret X197 (some (.int (1 : Int32))) (fun h => by rw [Bd.returns] at h; cases h) Bd.notSynchronized (by decide) (by decide) ?_ (fun fs hr => retN X197 hx (t := .boolean) Bd.returns (by simp) (hb hby at_276) hr)
      show Q_rm0 Z j0 j1 j2 j3 h0 n0 _ T197.heap _
      rw [e197]
      exact ⟨rfl, N198⟩
    ·
      refine own_dload X197 hx 174 rfl (hb hby at_172) rfl ?_
      refine own_dconst1 X197 hx 175 rfl (hb hby at_174) ?_
      refine own_dcmp X197 hx 176 rfl (hb hby at_175) (-1 : Int32) (own_cmp_lt (own_fit_nn (own_m_ge j0) (own_m_ge j1)).1 own_is.one.val (own_fit_lt1 (own_m_ge j0) (own_m_ge j1) (Or.inr (own_nz hc200))) .l) ?_
      refine own_ifYes X197 hx 183 (hb hby at_176) (by decide) (by decide) rfl ?_
      refine own_iconst X197 hx 184 rfl (hb hby at_183) (0 : Int32) rfl ?_
      refine own_lload X197 hx 186 rfl (hb hby at_184) rfl ?_
      refine own_lconst X197 hx 187 rfl (hb hby at_186) (0 : Int64) rfl ?_
      refine own_lcmp X197 hx 188 rfl (hb hby at_187) _ rfl ?_
      refine own_ifNo X197 hx 191 rfl (hb hby at_188) ((if0 _ _).trans (teq ((lw_eq _ _).mpr hc199)).2) ?_
      refine own_lload X197 hx 193 rfl (hb hby at_191) rfl ?_
      refine own_lconst X197 hx 194 rfl (hb hby at_193) (0 : Int64) rfl ?_
      refine own_lcmp X197 hx 195 rfl (hb hby at_194) _ rfl ?_
      refine own_ifYes X197 hx 202 (hb hby at_195) ((if0 _ _).trans (feq (fun z => hc200 ((lw_eq _ _).mp z))).2) (by decide) rfl ?_
      refine own_iconst X197 hx 203 rfl (hb hby at_202) (0 : Int32) rfl ?_
      refine own_icmpNo X197 hx 206 rfl (hb hby at_203) (by decide) ?_
      refine own_iconst X197 hx 207 rfl (hb hby at_206) (1 : Int32) rfl ?_
      refine own_goto X197 hx 211 (hb hby at_207) (by decide) rfl ?_
      refine own_istore X197 hx 213 rfl (hb hby at_211) #[.val (.long j0), .second, .val (.long j1), .second, .val (.long j2), .second, .val (.long j3), .second, .val (.long (own_m j0)), .second, .val (.long (own_m j1)), .second, .val (.long (own_x j0 j2)), .second, .val (.long (own_x j1 j3)), .second, .val (.long (own_s j0)), .second, .val (.long (own_s j1)), .second, .val (.ref b75), .val (.ref b79), .val (.ref b110), .val (.ref b148), .val (.double (own_fit (own_m j0) (own_m j1))), .second, .val (.double (own_fit (own_x j0 j2) (own_x j1 j3))), .second, .val (.double (own_fit (own_s j0) (own_s j1))), .second, .val (.int (1 : Int32)), .val (.int (1 : Int32)), .unset, .unset] rfl ?_
      refine own_dload X197 hx 215 rfl (hb hby at_213) rfl ?_
      refine own_dload X197 hx 217 rfl (hb hby at_215) rfl ?_
      refine own_dcmp X197 hx 218 rfl (hb hby at_217) _ rfl ?_
      refine own_ifNo X197 hx 221 rfl (hb hby at_218) ((if0 _ _).trans (flt (own_cmp_le (own_fit_nn (own_x0 j0 j2) (own_x0 j1 j3)).1 (own_fit_nn (own_m_ge j0) (own_m_ge j1)).1 (own_mono (own_m_ge j0) (own_m_ge j1) (own_x_ge j0 j2) (own_x_ge j1 j3)) .g)).2.2.1) ?_
      refine own_iconst X197 hx 222 rfl (hb hby at_221) (1 : Int32) rfl ?_
      refine own_goto X197 hx 226 (hb hby at_222) (by decide) rfl ?_
      refine own_istore X197 hx 228 rfl (hb hby at_226) #[.val (.long j0), .second, .val (.long j1), .second, .val (.long j2), .second, .val (.long j3), .second, .val (.long (own_m j0)), .second, .val (.long (own_m j1)), .second, .val (.long (own_x j0 j2)), .second, .val (.long (own_x j1 j3)), .second, .val (.long (own_s j0)), .second, .val (.long (own_s j1)), .second, .val (.ref b75), .val (.ref b79), .val (.ref b110), .val (.ref b148), .val (.double (own_fit (own_m j0) (own_m j1))), .second, .val (.double (own_fit (own_x j0 j2) (own_x j1 j3))), .second, .val (.double (own_fit (own_s j0) (own_s j1))), .second, .val (.int (1 : Int32)), .val (.int (1 : Int32)), .val (.int (1 : Int32)), .unset] rfl ?_
      refine own_dload X197 hx 230 rfl (hb hby at_228) rfl ?_
      refine own_dconst1 X197 hx 231 rfl (hb hby at_230) ?_
      refine own_lconst X197 hx 232 rfl (hb hby at_231) (1 : Int64) rfl ?_
      refine own_lload X197 hx 234 rfl (hb hby at_232) rfl ?_
      refine own_ladd X197 hx 235 rfl (hb hby at_234) _ rfl ?_
      refine own_lload X197 hx 237 rfl (hb hby at_235) rfl ?_
      refine own_ladd X197 hx 238 rfl (hb hby at_237) _ rfl ?_
      refine own_l2d X197 hx 239 rfl (hb hby at_238) _ rfl ?_
      refine own_ddiv X197 hx 240 rfl (hb hby at_239) (own_nn_of (own_exact rfl (own_s_rng j0).1 (own_s_rng j0).2 rfl (own_s_rng j1).1 (own_s_rng j1).2).1) _ rfl ?_
      refine own_dcmp X197 hx 241 rfl (hb hby at_240) (0 : Int32) (own_cmp_eq (own_fit_nn (own_s_rng j0).1 (own_s_rng j1).1).1 (own_exact rfl (own_s_rng j0).1 (own_s_rng j0).2 rfl (own_s_rng j1).1 (own_s_rng j1).2).1 (own_exact rfl (own_s_rng j0).1 (own_s_rng j0).2 rfl (own_s_rng j1).1 (own_s_rng j1).2).2 .l) ?_
      refine own_ifNo X197 hx 244 rfl (hb hby at_241) (by decide) ?_
      refine own_iconst X197 hx 245 rfl (hb hby at_244) (1 : Int32) rfl ?_
      refine own_goto X197 hx 249 (hb hby at_245) (by decide) rfl ?_
      refine own_istore X197 hx 251 rfl (hb hby at_249) #[.val (.long j0), .second, .val (.long j1), .second, .val (.long j2), .second, .val (.long j3), .second, .val (.long (own_m j0)), .second, .val (.long (own_m j1)), .second, .val (.long (own_x j0 j2)), .second, .val (.long (own_x j1 j3)), .second, .val (.long (own_s j0)), .second, .val (.long (own_s j1)), .second, .val (.ref b75), .val (.ref b79), .val (.ref b110), .val (.ref b148), .val (.double (own_fit (own_m j0) (own_m j1))), .second, .val (.double (own_fit (own_x j0 j2) (own_x j1 j3))), .second, .val (.double (own_fit (own_s j0) (own_s j1))), .second, .val (.int (1 : Int32)), .val (.int (1 : Int32)), .val (.int (1 : Int32)), .val (.int (1 : Int32))] rfl ?_
      refine own_iload X197 hx 253 rfl (hb hby at_251) rfl ?_
      refine own_ifNo X197 hx 256 rfl (hb hby at_253) (by decide) ?_
      refine own_iload X197 hx 258 rfl (hb hby at_256) rfl ?_
      refine own_ifNo X197 hx 261 rfl (hb hby at_258) (by decide) ?_
      refine own_iload X197 hx 263 rfl (hb hby at_261) rfl ?_
      refine own_ifNo X197 hx 266 rfl (hb hby at_263) (by decide) ?_
      refine own_iload X197 hx 268 rfl (hb hby at_266) rfl ?_
      refine own_ifNo X197 hx 271 rfl (hb hby at_268) (by decide) ?_
      refine own_iconst X197 hx 272 rfl (hb hby at_271) (1 : Int32) rfl ?_
      refine own_goto X197 hx 276 (hb hby at_272) (by decide) rfl ?_
      refine own_ret X197 (some (.int (1 : Int32))) (fun h => by rw [Bd.returns] at h; cases h) Bd.notSynchronized (by decide) (by decide) ?_ (fun fs hr => retN X197 hx (t := .boolean) Bd.returns (by simp) (hb hby at_276) hr)
      show Q_rm0 Z j0 j1 j2 j3 h0 n0 _ T197.heap _
      rw [e197]
      exact ⟨rfl, N198⟩
  ·
    refine own_dload X197 hx 174 rfl (hb hby at_172) rfl ?_
    refine own_dconst1 X197 hx 175 rfl (hb hby at_174) ?_
    refine own_dcmp X197 hx 176 rfl (hb hby at_175) (-1 : Int32) (own_cmp_lt (own_fit_nn (own_m_ge j0) (own_m_ge j1)).1 own_is.one.val (own_fit_lt1 (own_m_ge j0) (own_m_ge j1) (Or.inl (own_nz hc199))) .l) ?_
    refine own_ifYes X197 hx 183 (hb hby at_176) (by decide) (by decide) rfl ?_
    refine own_iconst X197 hx 184 rfl (hb hby at_183) (0 : Int32) rfl ?_
    refine own_lload X197 hx 186 rfl (hb hby at_184) rfl ?_
    refine own_lconst X197 hx 187 rfl (hb hby at_186) (0 : Int64) rfl ?_
    refine own_lcmp X197 hx 188 rfl (hb hby at_187) _ rfl ?_
    refine own_ifYes X197 hx 202 (hb hby at_188) ((if0 _ _).trans (feq (fun z => hc199 ((lw_eq _ _).mp z))).2) (by decide) rfl ?_
    refine own_iconst X197 hx 203 rfl (hb hby at_202) (0 : Int32) rfl ?_
    refine own_icmpNo X197 hx 206 rfl (hb hby at_203) (by decide) ?_
    refine own_iconst X197 hx 207 rfl (hb hby at_206) (1 : Int32) rfl ?_
    refine own_goto X197 hx 211 (hb hby at_207) (by decide) rfl ?_
    refine own_istore X197 hx 213 rfl (hb hby at_211) #[.val (.long j0), .second, .val (.long j1), .second, .val (.long j2), .second, .val (.long j3), .second, .val (.long (own_m j0)), .second, .val (.long (own_m j1)), .second, .val (.long (own_x j0 j2)), .second, .val (.long (own_x j1 j3)), .second, .val (.long (own_s j0)), .second, .val (.long (own_s j1)), .second, .val (.ref b75), .val (.ref b79), .val (.ref b110), .val (.ref b148), .val (.double (own_fit (own_m j0) (own_m j1))), .second, .val (.double (own_fit (own_x j0 j2) (own_x j1 j3))), .second, .val (.double (own_fit (own_s j0) (own_s j1))), .second, .val (.int (1 : Int32)), .val (.int (1 : Int32)), .unset, .unset] rfl ?_
    refine own_dload X197 hx 215 rfl (hb hby at_213) rfl ?_
    refine own_dload X197 hx 217 rfl (hb hby at_215) rfl ?_
    refine own_dcmp X197 hx 218 rfl (hb hby at_217) _ rfl ?_
    refine own_ifNo X197 hx 221 rfl (hb hby at_218) ((if0 _ _).trans (flt (own_cmp_le (own_fit_nn (own_x0 j0 j2) (own_x0 j1 j3)).1 (own_fit_nn (own_m_ge j0) (own_m_ge j1)).1 (own_mono (own_m_ge j0) (own_m_ge j1) (own_x_ge j0 j2) (own_x_ge j1 j3)) .g)).2.2.1) ?_
    refine own_iconst X197 hx 222 rfl (hb hby at_221) (1 : Int32) rfl ?_
    refine own_goto X197 hx 226 (hb hby at_222) (by decide) rfl ?_
    refine own_istore X197 hx 228 rfl (hb hby at_226) #[.val (.long j0), .second, .val (.long j1), .second, .val (.long j2), .second, .val (.long j3), .second, .val (.long (own_m j0)), .second, .val (.long (own_m j1)), .second, .val (.long (own_x j0 j2)), .second, .val (.long (own_x j1 j3)), .second, .val (.long (own_s j0)), .second, .val (.long (own_s j1)), .second, .val (.ref b75), .val (.ref b79), .val (.ref b110), .val (.ref b148), .val (.double (own_fit (own_m j0) (own_m j1))), .second, .val (.double (own_fit (own_x j0 j2) (own_x j1 j3))), .second, .val (.double (own_fit (own_s j0) (own_s j1))), .second, .val (.int (1 : Int32)), .val (.int (1 : Int32)), .val (.int (1 : Int32)), .unset] rfl ?_
    refine own_dload X197 hx 230 rfl (hb hby at_228) rfl ?_
    refine own_dconst1 X197 hx 231 rfl (hb hby at_230) ?_
    refine own_lconst X197 hx 232 rfl (hb hby at_231) (1 : Int64) rfl ?_
    refine own_lload X197 hx 234 rfl (hb hby at_232) rfl ?_
    refine own_ladd X197 hx 235 rfl (hb hby at_234) _ rfl ?_
    refine own_lload X197 hx 237 rfl (hb hby at_235) rfl ?_
    refine own_ladd X197 hx 238 rfl (hb hby at_237) _ rfl ?_
    refine own_l2d X197 hx 239 rfl (hb hby at_238) _ rfl ?_
    refine own_ddiv X197 hx 240 rfl (hb hby at_239) (own_nn_of (own_exact rfl (own_s_rng j0).1 (own_s_rng j0).2 rfl (own_s_rng j1).1 (own_s_rng j1).2).1) _ rfl ?_
    refine own_dcmp X197 hx 241 rfl (hb hby at_240) (0 : Int32) (own_cmp_eq (own_fit_nn (own_s_rng j0).1 (own_s_rng j1).1).1 (own_exact rfl (own_s_rng j0).1 (own_s_rng j0).2 rfl (own_s_rng j1).1 (own_s_rng j1).2).1 (own_exact rfl (own_s_rng j0).1 (own_s_rng j0).2 rfl (own_s_rng j1).1 (own_s_rng j1).2).2 .l) ?_
    refine own_ifNo X197 hx 244 rfl (hb hby at_241) (by decide) ?_
    refine own_iconst X197 hx 245 rfl (hb hby at_244) (1 : Int32) rfl ?_
    refine own_goto X197 hx 249 (hb hby at_245) (by decide) rfl ?_
    refine own_istore X197 hx 251 rfl (hb hby at_249) #[.val (.long j0), .second, .val (.long j1), .second, .val (.long j2), .second, .val (.long j3), .second, .val (.long (own_m j0)), .second, .val (.long (own_m j1)), .second, .val (.long (own_x j0 j2)), .second, .val (.long (own_x j1 j3)), .second, .val (.long (own_s j0)), .second, .val (.long (own_s j1)), .second, .val (.ref b75), .val (.ref b79), .val (.ref b110), .val (.ref b148), .val (.double (own_fit (own_m j0) (own_m j1))), .second, .val (.double (own_fit (own_x j0 j2) (own_x j1 j3))), .second, .val (.double (own_fit (own_s j0) (own_s j1))), .second, .val (.int (1 : Int32)), .val (.int (1 : Int32)), .val (.int (1 : Int32)), .val (.int (1 : Int32))] rfl ?_
    refine own_iload X197 hx 253 rfl (hb hby at_251) rfl ?_
    refine own_ifNo X197 hx 256 rfl (hb hby at_253) (by decide) ?_
    refine own_iload X197 hx 258 rfl (hb hby at_256) rfl ?_
    refine own_ifNo X197 hx 261 rfl (hb hby at_258) (by decide) ?_
    refine own_iload X197 hx 263 rfl (hb hby at_261) rfl ?_
    refine own_ifNo X197 hx 266 rfl (hb hby at_263) (by decide) ?_
    refine own_iload X197 hx 268 rfl (hb hby at_266) rfl ?_
    refine own_ifNo X197 hx 271 rfl (hb hby at_268) (by decide) ?_
    refine own_iconst X197 hx 272 rfl (hb hby at_271) (1 : Int32) rfl ?_
    refine own_goto X197 hx 276 (hb hby at_272) (by decide) rfl ?_
    refine own_ret X197 (some (.int (1 : Int32))) (fun h => by rw [Bd.returns] at h; cases h) Bd.notSynchronized (by decide) (by decide) ?_ (fun fs hr => retN X197 hx (t := .boolean) Bd.returns (by simp) (hb hby at_276) hr)
    show Q_rm0 Z j0 j1 j2 j3 h0 n0 _ T197.heap _
    rw [e197]
    exact ⟨rfl, N198⟩
set_option maxRecDepth 65536 in
set_option maxHeartbeats 40000000 in
theorem comes_1 {Post : Tables → Env → Array Value → State → Outcome → State → Prop} (hpost : ∀ tb e args s v u, (limb_1_1.after args s (.returned v) u = true ∧ limb_1_2.after args s (.returned v) u = true ∧ True) → FrameEnd s (.returned v) u (Jvm.fieldLocs frame_1_writes args s ++ Jvm.arrayLocs frame_1_arrays args s ++ Jvm.staticLocs frame_1_statics s) 16 128 → Post tb e args s (.returned v) u) :
    ArmFor flags0 classFile x code maxLocals ret World_1 tables_1 room_1 Calls_1 rest_1 Pre_1 Post := by
  intro l hfl _ _ p e ha hc hk s m args below hf hA hF happ hP
  obtain ⟨hcalls, hrest, hpre⟩ := hP
  obtain ⟨-, -, -, hnamed, -, -, -, hat⟩ := (Spec.applies_iff hf).mp happ
  obtain ⟨hg, hn⟩ := and_e (Cond.before_iff.mp (show (Jvm.Cond.and given_1 narrow_1).before args s = true from hpre))
  obtain ⟨hcount, hg1⟩ := and_e hg
  obtain ⟨ha0, hgr0⟩ := and_e hg1
  obtain ⟨ha1, hgr1⟩ := and_e hgr0
  obtain ⟨ha2, hgr2⟩ := and_e hgr1
  obtain ⟨w0, w1, w2, w3, rfl⟩ : ∃ w0 w1 w2 w3 : Value, args = #[w0, w1, w2, w3] := by
    have hs : args.size = 4 := by simpa [Cond.value, given_1] using hcount
    obtain ⟨L⟩ := args
    match L, hs with
    | [w0, w1, w2, w3], _ => exact ⟨w0, w1, w2, w3, rfl⟩
  have hw := fun d (hd : d ∈ tables_1) => atoms_spec (ws := Jvm.Cond.code x code maxLocals ret :: tables_1) hat d (List.mem_cons_of_mem _ hd)
  have hfit : Fit s := fun {y c} hc i hi => by
    obtain ⟨ha, rfl⟩ := Array.getElem?_eq_some_iff.mp hc
    have q := List.all_eq_true.mp ((Array.all_eq_true_iff_forall_mem.mp hF) _ (Array.getElem_mem ha)) i (List.mem_range.mpr hi)
    simpa [Array.getElem?_eq_getElem hi] using q
  obtain ⟨i0, ei0⟩ := isL_v ha0
  obtain rfl : w0 = (.long i0) := Option.some.inj ei0
  obtain ⟨i1, ei1⟩ := isL_v ha1
  obtain rfl : w1 = (.long i1) := Option.some.inj ei1
  obtain ⟨i2, ei2⟩ := isL_v ha2
  obtain rfl : w2 = (.long i2) := Option.some.inj ei2
  obtain ⟨i3, ei3⟩ := isL_v hgr2
  obtain rfl : w3 = (.long i3) := Option.some.inj ei3
  obtain ⟨n, o, h1, h2, h3, _, L, rfl, ⟨rfl, N⟩, hq⟩ := rm0 l s _ hw tables_1 i0 i1 i2 i3 s.heap s.heap.size (Nat.le_refl _)  p e ha hc hk s m _ below hf ((Spec.applies_iff_loose hf).mp happ).1 ⟨rfl, State.Warmed39.refl s, rfl⟩ trivial
  refine ⟨n, _, h1, h2, h3, hpost _ _ _ _ _ _ ⟨Cond.after_iff.mpr rfl, Cond.after_iff.mpr (eq_i res_at (Term.int_eval (1)) rfl), trivial⟩ ⟨hq.1, hq.2.1, (hq.2.2.sift fun y hy => Or.inr (N y hy)).mono (by decide) (by decide)⟩⟩
theorem main_1_1 : Claimed_1_1 := comes_1 fun _ _ _ _ _ _ h hF => ⟨h.1, hF⟩
theorem main_1_2 : Claimed_1_2 := comes_1 fun _ _ _ _ _ _ h hF => ⟨h.2.1, hF⟩
end Jvm.Pilot.@@N@@
namespace Jvm.Pilot.@@N@@
open Jvm Jvm.ClassFile Sem Op Lib Jvm.Free Jvm.Stand Jvm.Pilot.@@N@@.Jvm.D
/-! MADE BY PROGRAM (witnessworld.py) out of the Statement's table words and the real class files: 10 classes; the members and pool entries that the words name. The judged class is class 1, her method 1. -/
namespace start1
open Jvm.ClassFile
def u (s : String) : CpInfo := .utf8 (stringToUtf16 s)
/-- a pool by its gaps: so many unusable entries, then the entry; so many at the end -/
def gap : Nat → List CpInfo → List CpInfo
  | 0, r => r
  | n + 1, r => .unusable :: gap n r
def poolList (es : List (Nat × CpInfo)) (last : Nat) : List CpInfo := es.foldr (fun e r => gap e.1 (e.2 :: r)) (gap last [])
def pool (es : List (Nat × CpInfo)) (last : Nat) : Array CpInfo := ⟨poolList es last⟩
def fileOf (pool : Array CpInfo) (this : Nat) (attrs : Array Attribute := #[]) (ms : Array MethodInfo := #[]) (fl : Nat := 33) (sup : Nat := 0) (ifs : Array Nat := #[]) (fds : Array FieldInfo := #[]) : ClassFile where
  minorVersion := 0
  majorVersion := 65
  constantPool := pool
  accessFlags := fl
  thisClass := this
  superClass := sup
  interfaces := ifs
  fields := fds
  methods := ms
  attributes := attrs
def plain (name : String) (sup : Option ClassId) : Class where
  name := name
  kind := .ordinary
  loader := none
  accessFlags := 33
  super := sup
  interfaces := #[]
  cf := none
  fields := #[]
  methods := #[]
  instanceTypes := #[]
  staticTypes := #[]
  resolved := #[]
  callSites := []
  init := .initialized
  statics := none
  mirror := none

def pool0 : Array CpInfo := pool [(5, u "<init>"), (0, u "()V"), (1, .class_ 10), (1, u "java/lang/Object")] 113

def k0c0 : Code := { maxStack := 0, maxLocals := 1, code := object_method_1_code, exceptionTable := #[], attributes := #[] }
def k0m0 : Method := { name := "<init>", desc := "()V", sig := { parameters := [], returnType := none }, accessFlags := 1, code := some k0c0 }
/-- java/lang/Object -/
def k0 : Class := { plain "java/lang/Object" none with
  accessFlags := 33
  interfaces := #[]
  cf := some (fileOf pool0 8 #[] #[{ accessFlags := 1, nameIndex := 5, descriptorIndex := 6, attributes := #[] }] 33 0 #[] #[])
  fields := #[]
  methods := #[k0m0]
  instanceTypes := #[]
  staticTypes := #[]
  resolved := Array.replicate 124 none
  statics := none }

def pool1 : Array CpInfo := pool [(2, .class_ 4), (1, u "java/lang/Object"), (0, u "<init>"), (0, u "()V"), (2, .long 9223372036854775807), (1, .methodref 12 13), (0, .class_ 14), (0, .nameAndType 15 16), (0, u "java/lang/Math"), (0, u "max"), (0, u "(JJ)J"), (0, .long 1099511627775), (1, .class_ 20), (0, u "com/example/slotwright/slotwright/search/Individual"), (0, .methodref 19 22), (0, .nameAndType 5 23), (0, u "([I[IJJLcom/example/slotwright/slotwright/search/CourseCosts;Lcom/example/slotwright/slotwright/rules/BrokenLectures;)V"), (0, .methodref 19 25), (0, .nameAndType 26 27), (0, u "fitness"), (0, u "()D"), (0, .class_ 29), (0, u "com/example/slotwright/slotwright/search/IndividualFitnessPinLaw"), (2, u "law"), (0, u "(JJJJ)Z")] 5

def k1m0 : Method := { name := "<init>", desc := "()V", sig := { parameters := [], returnType := none }, accessFlags := 1, code := none }
def k1c1 : Code := { maxStack := 10, maxLocals := 34, code := code, exceptionTable := #[], attributes := #[] }
def k1m1 : Method := { name := "law", desc := "(JJJJ)Z", sig := { parameters := [.long, .long, .long, .long], returnType := some .boolean }, accessFlags := 9, code := some k1c1 }
/-- com/example/slotwright/slotwright/search/IndividualFitnessPinLaw -/
def k1 : Class := { plain "com/example/slotwright/slotwright/search/IndividualFitnessPinLaw" (some 0) with
  accessFlags := 49
  interfaces := #[]
  cf := some (fileOf pool1 28 #[] #[{ accessFlags := 1, nameIndex := 5, descriptorIndex := 6, attributes := #[] }, { accessFlags := 9, nameIndex := 32, descriptorIndex := 33, attributes := #[] }] 49 2 #[] #[])
  fields := #[]
  methods := #[k1m0, k1m1]
  instanceTypes := #[]
  staticTypes := #[]
  resolved := Array.replicate 39 none
  statics := none }

def pool2 : Array CpInfo := pool [(1, .class_ 2), (0, u "java/lang/Math"), (1, .class_ 6), (1, u "java/lang/Object"), (0, u "<init>"), (0, u "()V"), (89, .class_ 100), (1, u "java/lang/Math$RandomNumberGeneratorHolder"), (20, u "(JJ)J"), (50, u "negativeZeroFloatBits"), (0, u "J"), (2, u "negativeZeroDoubleBits"), (21, u "max"), (46, u "$assertionsDisabled"), (0, u "Z"), (91, u "twoToTheDoubleScaleDown"), (0, u "D"), (4, u "twoToTheDoubleScaleUp"), (9, u "E"), (3, u "PI"), (2, u "TAU"), (2, u "DEGREES_TO_RADIANS"), (0, u "RADIANS_TO_DEGREES")] 94

def k2m0 : Method := { name := "<init>", desc := "()V", sig := { parameters := [], returnType := none }, accessFlags := 2, code := none }
def k2c1 : Code := { maxStack := 4, maxLocals := 4, code := jdk_29_method_66_code, exceptionTable := #[], attributes := #[] }
def k2m1 : Method := { name := "max", desc := "(JJ)J", sig := { parameters := [.long, .long], returnType := some .long }, accessFlags := 9, code := some k2c1 }
/-- java/lang/Math -/
def k2 : Class := { plain "java/lang/Math" (some 0) with
  accessFlags := 49
  interfaces := #[]
  cf := some (fileOf pool2 1 #[.nestMembers #[98]] #[{ accessFlags := 2, nameIndex := 7, descriptorIndex := 8, attributes := #[] }, { accessFlags := 9, nameIndex := 198, descriptorIndex := 121, attributes := #[] }] 49 4 #[] #[{ accessFlags := 25, nameIndex := 354, descriptorIndex := 339, attributes := #[] }, { accessFlags := 25, nameIndex := 358, descriptorIndex := 339, attributes := #[] }, { accessFlags := 25, nameIndex := 361, descriptorIndex := 339, attributes := #[] }, { accessFlags := 26, nameIndex := 364, descriptorIndex := 339, attributes := #[] }, { accessFlags := 26, nameIndex := 365, descriptorIndex := 339, attributes := #[] }, { accessFlags := 26, nameIndex := 172, descriptorIndex := 173, attributes := #[] }, { accessFlags := 26, nameIndex := 176, descriptorIndex := 173, attributes := #[] }, { accessFlags := 8, nameIndex := 344, descriptorIndex := 339, attributes := #[] }, { accessFlags := 8, nameIndex := 338, descriptorIndex := 339, attributes := #[] }, { accessFlags := 4120, nameIndex := 245, descriptorIndex := 246, attributes := #[] }])
  fields := #[{ name := "E", type := .double, accessFlags := 25, slot := 0, constantValue := 0 }, { name := "PI", type := .double, accessFlags := 25, slot := 1, constantValue := 0 }, { name := "TAU", type := .double, accessFlags := 25, slot := 2, constantValue := 0 }, { name := "DEGREES_TO_RADIANS", type := .double, accessFlags := 26, slot := 3, constantValue := 0 }, { name := "RADIANS_TO_DEGREES", type := .double, accessFlags := 26, slot := 4, constantValue := 0 }, { name := "negativeZeroFloatBits", type := .long, accessFlags := 26, slot := 5, constantValue := 0 }, { name := "negativeZeroDoubleBits", type := .long, accessFlags := 26, slot := 6, constantValue := 0 }, { name := "twoToTheDoubleScaleUp", type := .double, accessFlags := 8, slot := 7, constantValue := 0 }, { name := "twoToTheDoubleScaleDown", type := .double, accessFlags := 8, slot := 8, constantValue := 0 }, { name := "$assertionsDisabled", type := .boolean, accessFlags := 4120, slot := 9, constantValue := 0 }]
  methods := #[k2m0, k2m1]
  instanceTypes := #[]
  staticTypes := #[.double, .double, .double, .double, .double, .long, .long, .double, .double, .boolean]
  resolved := Array.replicate 460 none
  statics := none }

def pool3 : Array CpInfo := pool [(1, .methodref 2 3), (0, .class_ 4), (0, .nameAndType 5 6), (0, u "java/lang/Object"), (0, u "<init>"), (0, u "()V"), (0, .fieldref 8 9), (0, .class_ 10), (0, .nameAndType 11 12), (0, u "com/example/slotwright/slotwright/search/Individual"), (0, u "rooms"), (0, u "[I"), (0, .fieldref 8 14), (0, .nameAndType 15 12), (0, u "periods"), (0, .fieldref 8 17), (0, .nameAndType 18 19), (0, u "hard"), (0, u "J"), (0, .fieldref 8 21), (0, .nameAndType 22 19), (0, u "cost"), (0, .fieldref 8 24), (0, .nameAndType 25 26), (0, u "courseCosts"), (0, u "Lcom/example/slotwright/slotwright/search/CourseCosts;"), (0, .fieldref 8 28), (0, .nameAndType 29 30), (0, u "hardMarks"), (0, u "Lcom/example/slotwright/slotwright/rules/BrokenLectures;"), (29, u "BEST_FIRST"), (0, u "Ljava/util/Comparator;"), (2, u "([I[IJJLcom/example/slotwright/slotwright/search/CourseCosts;Lcom/example/slotwright/slotwright/rules/BrokenLectures;)V"), (9, u "fitness"), (0, u "()D")] 27

def k3c0 : Code := { maxStack := 3, maxLocals := 9, code := prog_56_method_1_code, exceptionTable := #[], attributes := #[] }
def k3m0 : Method := { name := "<init>", desc := "([I[IJJLcom/example/slotwright/slotwright/search/CourseCosts;Lcom/example/slotwright/slotwright/rules/BrokenLectures;)V", sig := { parameters := [(.array .int), (.array .int), .long, .long, (.object "com/example/slotwright/slotwright/search/CourseCosts"), (.object "com/example/slotwright/slotwright/rules/BrokenLectures")], returnType := none }, accessFlags := 0, code := some k3c0 }
def k3c1 : Code := { maxStack := 6, maxLocals := 1, code := prog_56_method_8_code, exceptionTable := #[], attributes := #[] }
def k3m1 : Method := { name := "fitness", desc := "()D", sig := { parameters := [], returnType := some .double }, accessFlags := 0, code := some k3c1 }
/-- com/example/slotwright/slotwright/search/Individual -/
def k3 : Class := { plain "com/example/slotwright/slotwright/search/Individual" (some 0) with
  accessFlags := 48
  interfaces := #[]
  cf := some (fileOf pool3 8 #[] #[{ accessFlags := 0, nameIndex := 5, descriptorIndex := 64, attributes := #[] }, { accessFlags := 0, nameIndex := 74, descriptorIndex := 75, attributes := #[] }] 48 2 #[] #[{ accessFlags := 24, nameIndex := 60, descriptorIndex := 61, attributes := #[] }, { accessFlags := 18, nameIndex := 11, descriptorIndex := 12, attributes := #[] }, { accessFlags := 18, nameIndex := 15, descriptorIndex := 12, attributes := #[] }, { accessFlags := 18, nameIndex := 18, descriptorIndex := 19, attributes := #[] }, { accessFlags := 18, nameIndex := 22, descriptorIndex := 19, attributes := #[] }, { accessFlags := 18, nameIndex := 25, descriptorIndex := 26, attributes := #[] }, { accessFlags := 18, nameIndex := 29, descriptorIndex := 30, attributes := #[] }])
  fields := #[{ name := "BEST_FIRST", type := (.object "java/util/Comparator"), accessFlags := 24, slot := 0, constantValue := 0 }, { name := "rooms", type := (.array .int), accessFlags := 18, slot := 0, constantValue := 0 }, { name := "periods", type := (.array .int), accessFlags := 18, slot := 1, constantValue := 0 }, { name := "hard", type := .long, accessFlags := 18, slot := 2, constantValue := 0 }, { name := "cost", type := .long, accessFlags := 18, slot := 3, constantValue := 0 }, { name := "courseCosts", type := (.object "com/example/slotwright/slotwright/search/CourseCosts"), accessFlags := 18, slot := 4, constantValue := 0 }, { name := "hardMarks", type := (.object "com/example/slotwright/slotwright/rules/BrokenLectures"), accessFlags := 18, slot := 5, constantValue := 0 }]
  methods := #[k3m0, k3m1]
  instanceTypes := #[(.array .int), (.array .int), .long, .long, (.object "com/example/slotwright/slotwright/search/CourseCosts"), (.object "com/example/slotwright/slotwright/rules/BrokenLectures")]
  staticTypes := #[(.object "java/util/Comparator")]
  resolved := Array.replicate 103 none
  statics := none }

def pool4 : Array CpInfo := pool [(1, u "java/lang/Cloneable"), (0, .class_ 1), (0, u "java/lang/Object"), (0, .class_ 3)] 3

/-- java/lang/Cloneable -/
def k4 : Class := { plain "java/lang/Cloneable" (some 0) with
  accessFlags := 1537
  interfaces := #[]
  cf := some (fileOf pool4 2 #[] #[] 1537 4 #[] #[])
  fields := #[]
  methods := #[]
  instanceTypes := #[]
  staticTypes := #[]
  resolved := Array.replicate 8 none
  statics := none }

def pool5 : Array CpInfo := pool [(1, u "java/io/Serializable"), (0, .class_ 1), (0, u "java/lang/Object"), (0, .class_ 3)] 3

/-- java/io/Serializable -/
def k5 : Class := { plain "java/io/Serializable" (some 0) with
  accessFlags := 1537
  interfaces := #[]
  cf := some (fileOf pool5 2 #[] #[] 1537 4 #[] #[])
  fields := #[]
  methods := #[]
  instanceTypes := #[]
  staticTypes := #[]
  resolved := Array.replicate 8 none
  statics := none }

/-- the primitive byte -/
def k6 : Class := { plain "byte" none with kind := .primitive 'B', accessFlags := 0x411 }
/-- [B -/
def k7 : Class := { plain "[B" (some 0) with kind := .array 6 .byte, interfaces := #[4, 5], accessFlags := 1041 }

/-- the primitive int -/
def k8 : Class := { plain "int" none with kind := .primitive 'I', accessFlags := 0x411 }
/-- [I -/
def k9 : Class := { plain "[I" (some 0) with kind := .array 8 .int, interfaces := #[4, 5], accessFlags := 1041 }

def heap : Heap := #[]
def classes : Array Class := #[k0, k1, k2, k3, k4, k5, k6, k7, k8, k9]
def interned : List (Array UInt16 × Addr) := []
def slotsUsed : Nat := 0
def theMethod : MethodId := ⟨1, 1⟩
def args0 : Array Value := #[.long 5, .long 5, .long 5, .long 5]
def aboutOver (below : List Frame) : State where
  vm := { classes := classes, interned := interned.toArray }
  heap := heap
  slotsUsed := slotsUsed
  threads := #[{ frames := .invoking theMethod args0 :: below }]
def below0 : List Frame := [.native { method := ⟨0, 0⟩, args := #[] }]
def about1 : State := aboutOver below0
def p0 : Program := .bare "" "" ""
def e0 : Env := launch0.env 0 0 0
theorem w_frames : about1.frames = Frame.invoking theMethod args0 :: below0 := rfl
set_option maxRecDepth 65536 in
theorem w_args : argsFit about1.vm theMethod args0 = true := by decide +kernel
set_option maxRecDepth 65536 in
theorem w_heap : heapFits about1 = true := by decide +kernel
set_option maxRecDepth 65536 in
theorem w_runnable : about1.curStatus? = some .runnable := by decide +kernel
set_option maxRecDepth 65536 in
theorem w_alone : about1.alone = true := by decide +kernel
set_option maxRecDepth 65536 in
theorem w_named : about1.methodNamed? x = some theMethod := by decide +kernel
set_option maxRecDepth 65536 in
theorem w_hears : about1.hears theMethod below0 = true := by decide +kernel
set_option maxRecDepth 65536 in
theorem w_ripe : about1.ripe theMethod args0 below0 = true := by decide +kernel
theorem w_running : about1.status = .running := rfl
set_option maxRecDepth 65536 in
theorem w_room : about1.hasRoom e0.platform room_1 = true :=
  launch0.hasRoom_least _ room_1 (by decide +kernel) (by decide +kernel) (by decide +kernel) (by decide +kernel) (by decide +kernel) (by decide +kernel)
theorem allAtoms_all (ts : List Jvm.Cond) (a : Array Jvm.Value) (st : Jvm.State) : (allAtoms ts).before a st = ts.all (fun c => c.before a st) := by
  induction ts with
  | nil => rfl
  | cons c t ih =>
    show (Jvm.Cond.and c (allAtoms t)).before a st = _
    rw [Jvm.Cond.before_and, ih, List.all_cons]
def words1 : List Jvm.Cond := Jvm.Cond.code x code maxLocals ret :: tables_1
/-- a 'code' word, met by the world's own term for the bytes: nothing is compared byte by byte -/
theorem code_word {y : MethodName} {bytes : ByteArray} {mx : Nat} {rt : Option FieldType} {a : Array Value} {s : State} {m : MethodId} {meth : Method} {c : Code} (h1 : s.methodNamed? y = some m) (h2 : s.vm.method? m = some meth) (h3 : meth.code = some c) (h4 : c.code = bytes)
    (h5 : (c.maxLocals == mx && c.exceptionTable.isEmpty && decide (c.maxStack ≤ mostOperands) && decide (meth.sig.returnType = rt) && !meth.locks && decide (parseMethodDescriptor y.desc = some meth.sig)) = true) : (Jvm.Cond.code y bytes mx rt).before a s = true := by
  simp only [Bool.and_eq_true, beq_iff_eq, Bool.not_eq_true', decide_eq_true_eq] at h5
  obtain ⟨⟨⟨⟨⟨g1, g2⟩, g3⟩, g4⟩, g5⟩, g6⟩ := h5
  simp [Cond.before, Cond.holds, Cond.value, h1, h2, h3, h4, g1, g2, g3, g4, g5, g6]
def isCode : Jvm.Cond → Bool
  | .code _ _ _ _ => true
  | _ => false
theorem all_split {L : List Jvm.Cond} {P : Jvm.Cond → Bool} (h1 : L.all (fun c => isCode c || P c) = true) (h2 : ∀ c ∈ L.filter isCode, P c = true) : L.all P = true := by
  refine List.all_eq_true.mpr fun c hc => ?_
  have h := List.all_eq_true.mp h1 c hc
  rcases Bool.eq_false_or_eq_true (isCode c) with hi | hi
  · exact h2 c (List.mem_filter.mpr ⟨hc, hi⟩)
  · simpa [hi] using h
set_option maxRecDepth 65536 in
theorem w_c0 : (Jvm.Cond.code x code maxLocals ret).before args0 about1 = true := code_word (m := ⟨1, 1⟩) (meth := k1m1) (c := k1c1) (by decide +kernel) rfl rfl rfl (by decide +kernel)
set_option maxRecDepth 65536 in
theorem w_c1 : (Jvm.Cond.code ({ cls := "java/lang/Math", name := "max", desc := "(JJ)J" } : Jvm.MethodName) jdk_29_method_66_code (4 : Nat) (Option.some Jvm.ClassFile.FieldType.long)).before args0 about1 = true := code_word (m := ⟨2, 1⟩) (meth := k2m1) (c := k2c1) (by decide +kernel) rfl rfl rfl (by decide +kernel)
set_option maxRecDepth 65536 in
theorem w_c2 : (Jvm.Cond.code ({ cls := "com/example/slotwright/slotwright/search/Individual", name := "<init>", desc := "([I[IJJLcom/example/slotwright/slotwright/search/CourseCosts;Lcom/example/slotwright/slotwright/rules/BrokenLectures;)V" } : Jvm.MethodName) prog_56_method_1_code (9 : Nat) (Option.none : Option Jvm.ClassFile.FieldType)).before args0 about1 = true := code_word (m := ⟨3, 0⟩) (meth := k3m0) (c := k3c0) (by decide +kernel) rfl rfl rfl (by decide +kernel)
set_option maxRecDepth 65536 in
theorem w_c3 : (Jvm.Cond.code ({ cls := "java/lang/Object", name := "<init>", desc := "()V" } : Jvm.MethodName) object_method_1_code (1 : Nat) (Option.none : Option Jvm.ClassFile.FieldType)).before args0 about1 = true := code_word (m := ⟨0, 0⟩) (meth := k0m0) (c := k0c0) (by decide +kernel) rfl rfl rfl (by decide +kernel)
set_option maxRecDepth 65536 in
theorem w_c4 : (Jvm.Cond.code ({ cls := "com/example/slotwright/slotwright/search/Individual", name := "fitness", desc := "()D" } : Jvm.MethodName) prog_56_method_8_code (1 : Nat) (Option.some Jvm.ClassFile.FieldType.double)).before args0 about1 = true := code_word (m := ⟨3, 1⟩) (meth := k3m1) (c := k3c1) (by decide +kernel) rfl rfl rfl (by decide +kernel)
def codes1 : List Jvm.Cond := [Jvm.Cond.code x code maxLocals ret, Jvm.Cond.code ({ cls := "java/lang/Math", name := "max", desc := "(JJ)J" } : Jvm.MethodName) jdk_29_method_66_code (4 : Nat) (Option.some Jvm.ClassFile.FieldType.long), Jvm.Cond.code ({ cls := "com/example/slotwright/slotwright/search/Individual", name := "<init>", desc := "([I[IJJLcom/example/slotwright/slotwright/search/CourseCosts;Lcom/example/slotwright/slotwright/rules/BrokenLectures;)V" } : Jvm.MethodName) prog_56_method_1_code (9 : Nat) (Option.none : Option Jvm.ClassFile.FieldType), Jvm.Cond.code ({ cls := "java/lang/Object", name := "<init>", desc := "()V" } : Jvm.MethodName) object_method_1_code (1 : Nat) (Option.none : Option Jvm.ClassFile.FieldType), Jvm.Cond.code ({ cls := "com/example/slotwright/slotwright/search/Individual", name := "fitness", desc := "()D" } : Jvm.MethodName) prog_56_method_8_code (1 : Nat) (Option.some Jvm.ClassFile.FieldType.double)]
set_option maxRecDepth 65536 in
theorem codes_eq : words1.filter isCode = codes1 := rfl
theorem w_codes : ∀ c ∈ words1.filter isCode, c.before args0 about1 = true := by
  rw [codes_eq]
  intro c hc
  simp only [codes1, List.mem_cons, List.not_mem_nil, or_false] at hc
  rcases hc with rfl | rfl | rfl | rfl | rfl
  · exact w_c0
  · exact w_c1
  · exact w_c2
  · exact w_c3
  · exact w_c4
set_option maxRecDepth 65536 in
theorem w_t1 : (words1.take 24).all (fun c => isCode c || c.before args0 about1) = true := by decide +kernel
set_option maxRecDepth 65536 in
theorem w_t2 : (words1.drop 24).all (fun c => isCode c || c.before args0 about1) = true := by decide +kernel
theorem w_tables : (allAtoms (Jvm.Cond.code x code maxLocals ret :: tables_1)).before args0 about1 = true := by
  rw [allAtoms_all]
  show words1.all (fun c => c.before args0 about1) = true
  refine all_split ?_ w_codes
  rw [← List.take_append_drop 24 words1, List.all_append, w_t1, w_t2]
  rfl
set_option maxRecDepth 65536 in
theorem w_case : (Jvm.Cond.and given_1 narrow_1).before args0 about1 = true := by decide +kernel
theorem w_applies : (headSpec (Jvm.Cond.code x code maxLocals ret :: tables_1) room_1).applies x e0.platform about1 = true :=
  (Spec.applies_iff w_frames).mpr ⟨w_running, w_runnable, w_alone, w_named, w_hears, w_ripe, w_room, w_tables⟩
theorem atStart : AtStart classFile x code maxLocals ret World_1 tables_1 room_1 Calls_1 rest_1 Pre_1 launch0 p0 e0 about1 theMethod args0 below0 :=
  ⟨lists_1, trivial, launch0.admits_env _ _ _, launch0.least_env, fairChoices_fair.cas, fairChoices_fair.clock, w_frames, w_args, w_heap, w_applies, trivial, trivial, w_case⟩
end start1
theorem witness_1 : WitnessClaimed_1 := ⟨start1.p0, start1.e0, start1.about1, start1.theMethod, start1.args0, start1.below0, start1.atStart⟩
end Jvm.Pilot.@@N@@
