import JvmDerived
import JvmDerived.Pilot.@@N@@Statement
import JvmDerived.Pilot.@@N@@Code
set_option linter.unusedVariables false
set_option linter.unusedSimpArgs false
namespace Jvm.OwnFl
open Jvm.FP.Core
/-- the value of a double that is no NaN, counted in units of the least double -/
def own_z (x : UInt64) : Int := zval b64 (val64 x)
/-- how many of those units make 1 -/
def own_pw (n : Nat) : Nat := if h : n = 0 then 1 else 2 * own_pw (n - 1)
termination_by n
decreasing_by omega
theorem own_pw_eq (n : Nat) : own_pw n = 2 ^ n := by
  induction n with
  | zero => rw [own_pw]; rfl
  | succ k ih => rw [own_pw, dif_neg (Nat.succ_ne_zero k), Nat.add_sub_cancel, ih, Nat.pow_succ, Nat.mul_comm]
def own_U : Nat := own_pw 1074
theorem own_U_eq : own_U = 2 ^ 1074 := own_pw_eq 1074
theorem own_U_pos : (0 : Int) < (own_U : Int) := Int.natCast_pos.mpr (own_U_eq ▸ Nat.two_pow_pos 1074)
/-- a whole number of units that is a finite double -/
def own_rep (z : Int) : Prop := ∃ (c : Int) (j : Nat), z = c * ((2 ^ j : Nat) : Int) ∧ c.natAbs < 2 ^ 53 ∧ j ≤ 2045
theorem own_signed (c : Int) : signed (decide (c < 0)) c.natAbs = c := by
  unfold signed
  by_cases h : c < 0
  · simp only [h, decide_true, if_true]; omega
  · simp only [h, decide_false, Bool.false_eq_true, if_false]; omega
theorem own_datum {z : Int} (h : own_rep z) : ∃ s c q, Jvm.FP.Core.fits b64 (.fin s c q) ∧ zval b64 (.fin s c q) = z := by
  obtain ⟨c, j, rfl, hc, hj⟩ := h
  have hm : b64.qmax = 971 := by decide
  have hq := qmin_b64
  obtain ⟨c', q', h1, h2⟩ := round_exact good_b64 (decide (c < 0)) (c := c.natAbs) (q := b64.qmin + (j : Int)) hc (by omega) (by omega)
  refine ⟨_, c', q', h1 ▸ round_fits good_b64 _, ?_⟩
  show signed (decide (c < 0)) (inUnits c' q' b64.qmin) = _
  rw [h2]
  unfold inUnits
  rw [show (b64.qmin + (j : Int) - b64.qmin).toNat = j by omega, signed_mul, own_signed]
theorem own_top {z : Int} (h : own_rep z) : z.natAbs < 2 ^ 2098 := by
  obtain ⟨c, j, rfl, hc, hj⟩ := h
  rw [Int.natAbs_mul, Int.natAbs_natCast]
  have h1 : 2 ^ j ≤ 2 ^ 2045 := Nat.pow_le_pow_right (by decide) hj
  have h2 : c.natAbs * 2 ^ j ≤ c.natAbs * 2 ^ 2045 := Nat.mul_le_mul_left _ h1
  have h3 : c.natAbs * 2 ^ 2045 < 2 ^ 53 * 2 ^ 2045 := Nat.mul_lt_mul_of_pos_right hc (Nat.two_pow_pos _)
  have h4 : (2 : Nat) ^ 53 * 2 ^ 2045 = 2 ^ 2098 := (Nat.pow_add 2 53 2045).symm
  rw [h4] at h3
  exact Nat.lt_of_le_of_lt h2 h3
theorem own_fin_of {x : UInt64} {z : Int} (hn : val64 x ≠ .nan) (hz : own_z x = z) (h : own_rep z) : DFin x := by
  cases hv : val64 x with
  | nan => exact absurd hv hn
  | inf s =>
    exfalso
    have e : own_z x = signed s (b64.tails * 2 ^ (b64.exps - 2)) := by unfold own_z; rw [hv]; rfl
    have l := own_top h
    rw [← hz, e, natAbs_signed] at l
    have t : b64.tails * 2 ^ (b64.exps - 2) = 2 ^ 2098 := by
      rw [tails_b64, show b64.exps - 2 = 2046 by decide]
      exact (Nat.pow_add 2 52 2046).symm
    rw [t] at l
    exact Nat.lt_irrefl _ l
  | fin s c q => exact ⟨s, c, q, hv⟩
theorem own_round_nn (s : Bool) (c : Nat) (q : Int) : round b64 (.fin s c q) ≠ .nan := roundRatio_ne_nan b64 s c 1 q
theorem own_add {x y : UInt64} (hx : DFin x) (hy : DFin y) (h : own_rep (own_z x + own_z y)) : DFin (dadd x y) ∧ own_z (dadd x y) = own_z x + own_z y := by
  obtain ⟨s, c, q, fV, zV⟩ := own_datum h
  have e : own_z (dadd x y) = own_z x + own_z y := by
    show zval b64 (val64 (dadd x y)) = _
    rw [val64_dadd]
    have h1 := sum_le good_b64 hx hy (val64_fits x) (val64_fits y) fV (fun q => Datum.noConfusion q) (Int.le_of_eq zV.symm)
    have h2 := sum_ge good_b64 hx hy (val64_fits x) (val64_fits y) fV (fun q => Datum.noConfusion q) (Int.le_of_eq zV)
    rw [zV] at h1 h2
    exact Int.le_antisymm h1 h2
  refine ⟨own_fin_of ?_ e h, e⟩
  rw [val64_dadd]
  obtain ⟨s1, c1, q1, e1⟩ := hx
  obtain ⟨s2, c2, q2, e2⟩ := hy
  rw [e1, e2]
  exact own_round_nn _ _ _
theorem own_neg {x : UInt64} (hx : DFin x) : DFin (dneg x) ∧ own_z (dneg x) = - own_z x := by
  obtain ⟨s, c, q, e⟩ := hx
  constructor
  · exact ⟨!s, c, q, by rw [val64_dneg, e]; rfl⟩
  · show zval b64 (val64 (dneg x)) = _
    rw [val64_dneg, zval_negate]; rfl
theorem own_sub {x y : UInt64} (hx : DFin x) (hy : DFin y) (h : own_rep (own_z x - own_z y)) : DFin (dsub x y) ∧ own_z (dsub x y) = own_z x - own_z y := by
  obtain ⟨n1, n2⟩ := own_neg hy
  have e : own_z x + own_z (dneg y) = own_z x - own_z y := by rw [n2]; omega
  have k := own_add hx n1 (e ▸ h)
  rw [dsub_eq]
  exact ⟨k.1, k.2.trans e⟩
theorem own_signed_mul2 (s t : Bool) (a b : Nat) : signed (s != t) (a * b) = signed s a * signed t b := by
  cases s <;> cases t <;> simp [signed, Int.natCast_mul, Int.neg_mul, Int.mul_neg]
theorem own_mul {x y : UInt64} {z : Int} (hx : DFin x) (hy : DFin y) (h : own_rep z) (e : own_z x * own_z y = z * (own_U : Int)) : DFin (dmul x y) ∧ own_z (dmul x y) = z := by
  obtain ⟨s, c, q, e1⟩ := hx
  obtain ⟨t, d, r, e2⟩ := hy
  obtain ⟨s', c', q', fV, zV⟩ := own_datum h
  have f1 : Jvm.FP.Core.fits b64 (.fin s c q) := e1 ▸ val64_fits x
  have f2 : Jvm.FP.Core.fits b64 (.fin t d r) := e2 ▸ val64_fits y
  obtain ⟨p1, p2, p3⟩ := product_units f1 f2
  have u1 : own_z x = signed s (zmag b64 (.fin s c q)) := by unfold own_z; rw [e1]; rfl
  have u2 : own_z y = signed t (zmag b64 (.fin t d r)) := by unfold own_z; rw [e2]; rfl
  have hs : signed (s != t) (inUnits (c * d) (q + r) (2 * b64.qmin)) = zval b64 (.fin s' c' q') * ((2 ^ (b64.qmin - 2 * b64.qmin).toNat : Nat) : Int) := by
    rw [p3, own_signed_mul2, ← u1, ← u2, e, zV, show (b64.qmin - 2 * b64.qmin).toNat = 1074 by rw [qmin_b64]; rfl, own_U_eq]
  have hq := qmin_b64
  have k : own_z (dmul x y) = z := by
    show zval b64 (val64 (dmul x y)) = _
    rw [val64_dmul, e1, e2, p1]
    have h1 := zval_round_le good_b64 (s := (s != t)) (c := c * d) (q := q + r) (e0 := 2 * b64.qmin) fV (fun q => Datum.noConfusion q) (by omega) p2 (Int.le_of_eq hs)
    have h2 := zval_round_ge good_b64 (s := (s != t)) (c := c * d) (q := q + r) (e0 := 2 * b64.qmin) fV (fun q => Datum.noConfusion q) (by omega) p2 (Int.le_of_eq hs.symm)
    rw [zV] at h1 h2
    exact Int.le_antisymm h1 h2
  refine ⟨own_fin_of ?_ k h, k⟩
  rw [val64_dmul, e1, e2, p1]
  exact own_round_nn _ _ _
theorem own_nonneg {s : Bool} {m : Nat} (h : 0 ≤ signed s m) : signed s m = (m : Int) := by
  cases s
  · rfl
  · simp only [signed, if_true] at h ⊢; omega
theorem own_pos_sign {s : Bool} {m : Nat} (h : 0 < signed s m) : s = false := by
  cases s
  · rfl
  · simp only [signed, if_true] at h; omega
/-- the quotient of two finite doubles, the divisor not nought -/
theorem own_quot {x y : UInt64} {s t : Bool} {c d : Nat} {q r : Int} (e1 : val64 x = .fin s c q) (e2 : val64 y = .fin t d r) (hd : d ≠ 0) : val64 (ddiv x y) = roundRatio b64 (s != t) c d (q - r) := by
  rw [val64_ddiv, e1, e2]
  unfold quotient
  exact if_neg hd
theorem own_zmag_ne {t : Bool} {d : Nat} {r : Int} (h : signed t (zmag b64 (.fin t d r)) ≠ 0) : d ≠ 0 := by
  intro e
  apply h
  subst e
  show signed t (inUnits 0 r b64.qmin) = 0
  unfold inUnits
  rw [Nat.zero_mul]
  exact signed_zero t
theorem own_pow_shift {A B u v u' v' : Nat} (h : A * 2 ^ u = B * 2 ^ v) (he : u + v' = u' + v) : A * 2 ^ u' = B * 2 ^ v' := by
  refine Nat.eq_of_mul_eq_mul_right (Nat.two_pow_pos v) ?_
  calc A * 2 ^ u' * 2 ^ v = A * 2 ^ (u' + v) := by rw [Nat.mul_assoc, ← Nat.pow_add]
    _ = A * 2 ^ (u + v') := by rw [he]
    _ = A * 2 ^ u * 2 ^ v' := by rw [Nat.mul_assoc, ← Nat.pow_add]
    _ = B * 2 ^ v * 2 ^ v' := by rw [h]
    _ = B * 2 ^ v' * 2 ^ v := by ac_rfl
theorem own_zv {x : UInt64} {s : Bool} {c : Nat} {q : Int} (e : val64 x = .fin s c q) : own_z x = signed s (c * 2 ^ (q - b64.qmin).toNat) := by
  unfold own_z; rw [e]; rfl
theorem own_c0 {s : Bool} {c k : Nat} (h : signed s (c * 2 ^ k) = 0) : c = 0 := by
  rw [signed_eq_zero] at h
  rcases Nat.mul_eq_zero.mp h with h | h
  · exact h
  · have := Nat.two_pow_pos k; omega
theorem own_rr0 (s : Bool) (B : Nat) (e : Int) : zval b64 (roundRatio b64 s 0 B e) = 0 := by
  unfold roundRatio
  rw [if_pos rfl]
  show signed s (inUnits 0 b64.qmin b64.qmin) = 0
  unfold inUnits
  rw [Nat.zero_mul]
  exact signed_zero s
/-- two quotients of one value, none negative -/
theorem own_div_congr {x y x' y' : UInt64} (hx : DFin x) (hy : DFin y) (hx' : DFin x') (hy' : DFin y') (px : 0 ≤ own_z x) (py : 0 < own_z y) (px' : 0 ≤ own_z x') (py' : 0 < own_z y')
    (h : own_z x * own_z y' = own_z x' * own_z y) : own_z (ddiv x y) = own_z (ddiv x' y') := by
  obtain ⟨s, c, q, e1⟩ := hx
  obtain ⟨t, d, r, e2⟩ := hy
  obtain ⟨s', c', q', e1'⟩ := hx'
  obtain ⟨t', d', r', e2'⟩ := hy'
  have f1 : b64.qmin ≤ q := (e1 ▸ val64_fits x : Jvm.FP.Core.fits b64 (.fin s c q)).2.1
  have f2 : b64.qmin ≤ r := (e2 ▸ val64_fits y : Jvm.FP.Core.fits b64 (.fin t d r)).2.1
  have f1' : b64.qmin ≤ q' := (e1' ▸ val64_fits x' : Jvm.FP.Core.fits b64 (.fin s' c' q')).2.1
  have f2' : b64.qmin ≤ r' := (e2' ▸ val64_fits y' : Jvm.FP.Core.fits b64 (.fin t' d' r')).2.1
  rw [own_zv e2] at py h
  rw [own_zv e2'] at py' h
  rw [own_zv e1] at px h
  rw [own_zv e1'] at px' h
  have ht := own_pos_sign py
  have ht' := own_pos_sign py'
  have d0 : d ≠ 0 := fun z => by rw [z, Nat.zero_mul, signed_zero] at py; exact Int.lt_irrefl _ py
  have d0' : d' ≠ 0 := fun z => by rw [z, Nat.zero_mul, signed_zero] at py'; exact Int.lt_irrefl _ py'
  show zval b64 (val64 (ddiv x y)) = zval b64 (val64 (ddiv x' y'))
  rw [own_quot e1 e2 d0, own_quot e1' e2' d0']
  rw [own_nonneg px, own_nonneg px', own_nonneg (Int.le_of_lt py), own_nonneg (Int.le_of_lt py'), ← Int.natCast_mul, ← Int.natCast_mul] at h
  have hN : c * 2 ^ (q - b64.qmin).toNat * (d' * 2 ^ (r' - b64.qmin).toNat) = c' * 2 ^ (q' - b64.qmin).toNat * (d * 2 ^ (r - b64.qmin).toNat) := Int.natCast_inj.mp h
  have hP : c * d' * 2 ^ ((q - b64.qmin).toNat + (r' - b64.qmin).toNat) = c' * d * 2 ^ ((q' - b64.qmin).toNat + (r - b64.qmin).toNat) := by
    rw [Nat.pow_add, Nat.pow_add]
    calc c * d' * (2 ^ (q - b64.qmin).toNat * 2 ^ (r' - b64.qmin).toNat) = c * 2 ^ (q - b64.qmin).toNat * (d' * 2 ^ (r' - b64.qmin).toNat) := by ac_rfl
      _ = c' * 2 ^ (q' - b64.qmin).toNat * (d * 2 ^ (r - b64.qmin).toNat) := hN
      _ = c' * d * (2 ^ (q' - b64.qmin).toNat * 2 ^ (r - b64.qmin).toNat) := by ac_rfl
  have hC : c * d' * 2 ^ ((q - r) - (q' - r')).toNat = c' * d * 2 ^ ((q' - r') - (q - r)).toNat := own_pow_shift hP (by omega)
  by_cases hz : c = 0
  · have hz' : c' = 0 := by
      rw [hz, Nat.zero_mul, Nat.zero_mul] at hC
      rcases Nat.mul_eq_zero.mp hC.symm with k | k
      · rcases Nat.mul_eq_zero.mp k with k | k
        · exact k
        · exact absurd k d0
      · have := Nat.two_pow_pos ((q' - r') - (q - r)).toNat; omega
    rw [hz, hz', own_rr0, own_rr0]
  · have hz' : c' ≠ 0 := by
      intro k
      rw [k, Nat.zero_mul, Nat.zero_mul] at hC
      rcases Nat.mul_eq_zero.mp hC with k | k
      · rcases Nat.mul_eq_zero.mp k with k | k
        · exact hz k
        · exact d0' k
      · have := Nat.two_pow_pos ((q - r) - (q' - r')).toNat; omega
    have sx : s = false := by
      cases s
      · rfl
      · exfalso
        have := Nat.mul_pos (Nat.pos_of_ne_zero hz) (Nat.two_pow_pos (q - b64.qmin).toNat)
        simp only [signed, if_true] at px
        omega
    have sx' : s' = false := by
      cases s'
      · rfl
      · exfalso
        have := Nat.mul_pos (Nat.pos_of_ne_zero hz') (Nat.two_pow_pos (q' - b64.qmin).toNat)
        simp only [signed, if_true] at px'
        omega
    rw [ht, ht', sx, sx', roundRatio_congr (Nat.pos_of_ne_zero d0) (Nat.pos_of_ne_zero d0') hC]
/-- an exact quotient, nothing negative -/
theorem own_div {x y : UInt64} {z : Int} (hx : DFin x) (hy : DFin y) (px : 0 ≤ own_z x) (py : 0 < own_z y) (h : own_rep z) (e : own_z x * (own_U : Int) = z * own_z y) : DFin (ddiv x y) ∧ own_z (ddiv x y) = z := by
  obtain ⟨s, c, q, e1⟩ := hx
  obtain ⟨t, d, r, e2⟩ := hy
  obtain ⟨sv, cv, qv, fV, zV⟩ := own_datum h
  have f1 := (e1 ▸ val64_fits x : Jvm.FP.Core.fits b64 (.fin s c q))
  have f2 := (e2 ▸ val64_fits y : Jvm.FP.Core.fits b64 (.fin t d r))
  have pz : 0 ≤ z := by
    refine Int.not_lt.mp fun k => ?_
    have h1 : z * own_z y < 0 := Int.mul_neg_of_neg_of_pos k py
    have h2 : 0 ≤ own_z x * (own_U : Int) := Int.mul_nonneg px (Int.le_of_lt own_U_pos)
    omega
  have hq := qmin_b64
  have hm : b64.qmax = 971 := by decide
  have q1 := f1.2.1
  have q2 := f1.2.2.1
  have q3 := f2.2.1
  have q4 := f2.2.2.1
  have zM : (zmag b64 (.fin sv cv qv) : Int) = z := by
    have k : 0 ≤ signed sv (zmag b64 (.fin sv cv qv)) := by rw [show signed sv (zmag b64 (.fin sv cv qv)) = z from zV]; exact pz
    rw [← own_nonneg k]; exact zV
  rw [own_zv e1] at px e
  rw [own_zv e2] at py e
  have ht := own_pos_sign py
  have d0 : d ≠ 0 := fun k => by rw [k, Nat.zero_mul, signed_zero] at py; exact Int.lt_irrefl _ py
  rw [own_nonneg px, own_nonneg (Int.le_of_lt py), ← zM, ← Int.natCast_mul, ← Int.natCast_mul] at e
  have hN : c * 2 ^ (q - b64.qmin).toNat * own_U = zmag b64 (.fin sv cv qv) * (d * 2 ^ (r - b64.qmin).toNat) := Int.natCast_inj.mp e
  generalize hmv : zmag b64 (.fin sv cv qv) = mv at hN zM
  have hP : c * 2 ^ ((q - b64.qmin).toNat + 1074) = mv * d * 2 ^ (r - b64.qmin).toNat := by
    rw [Nat.pow_add, ← Nat.mul_assoc, ← own_U_eq, hN, Nat.mul_assoc]
  have hC : c * 2 ^ (q - r - (-4000)).toNat = mv * d * 2 ^ (b64.qmin - (-4000)).toNat := own_pow_shift hP (by omega)
  have hE : inUnits c (q - r) (-4000) = zmag b64 (.fin sv cv qv) * 2 ^ (b64.qmin - (-4000)).toNat * d := by
    unfold inUnits
    rw [hC, hmv]; exact Nat.mul_right_comm _ _ _
  have l1 := zmag_roundRatio_le good_b64 (s := (s != t)) (A := c) (B := d) (e := q - r) (e0 := -4000) (V := .fin sv cv qv) (Nat.pos_of_ne_zero d0) fV (fun q => Datum.noConfusion q) (by omega) (by omega) (Nat.le_of_eq hE)
  have l2 := zmag_roundRatio_ge good_b64 (s := (s != t)) (A := c) (B := d) (e := q - r) (e0 := -4000) (V := .fin sv cv qv) (Nat.pos_of_ne_zero d0) fV (by omega) (by omega) (Nat.le_of_eq hE.symm)
  have l3 : zmag b64 (roundRatio b64 (s != t) c d (q - r)) = mv := by rw [← hmv]; exact Nat.le_antisymm l1 l2
  have k : own_z (ddiv x y) = z := by
    show zval b64 (val64 (ddiv x y)) = z
    rw [own_quot e1 e2 d0]
    by_cases hz : c = 0
    · rw [hz, own_rr0]
      rw [hz, Nat.zero_mul] at hP
      have : mv * d * 2 ^ (r - b64.qmin).toNat = 0 := hP.symm
      rcases Nat.mul_eq_zero.mp this with k | k
      · rcases Nat.mul_eq_zero.mp k with k | k
        · rw [← zM, k]; rfl
        · exact absurd k d0
      · have := Nat.two_pow_pos (r - b64.qmin).toNat; omega
    · have sx : s = false := by
        cases s
        · rfl
        · exfalso
          have := Nat.mul_pos (Nat.pos_of_ne_zero hz) (Nat.two_pow_pos (q - b64.qmin).toNat)
          simp only [signed, if_true] at px
          omega
      unfold zval
      rw [sgn_roundRatio, l3, ht, sx, ← zM]
      rfl
  refine ⟨own_fin_of ?_ k h, k⟩
  rw [own_quot e1 e2 d0]
  exact roundRatio_ne_nan _ _ _ _ _
theorem own_pow_shift_le {A B u v u' v' : Nat} (h : A * 2 ^ u ≤ B * 2 ^ v) (he : u + v' = u' + v) : A * 2 ^ u' ≤ B * 2 ^ v' := by
  refine Nat.le_of_mul_le_mul_right ?_ (Nat.two_pow_pos v)
  calc A * 2 ^ u' * 2 ^ v = A * 2 ^ (u' + v) := by rw [Nat.mul_assoc, ← Nat.pow_add]
    _ = A * 2 ^ (u + v') := by rw [he]
    _ = A * 2 ^ u * 2 ^ v' := by rw [Nat.mul_assoc, ← Nat.pow_add]
    _ ≤ B * 2 ^ v * 2 ^ v' := Nat.mul_le_mul_right _ h
    _ = B * 2 ^ v' * 2 ^ v := by ac_rfl
/-- what a quotient that isn't negative is, by its magnitude -/
theorem own_div_mag {x y : UInt64} (hx : DFin x) (hy : DFin y) (px : 0 ≤ own_z x) (py : 0 < own_z y) : ∃ (c d : Nat) (q r : Int), b64.qmin ≤ q ∧ q ≤ b64.qmax ∧ b64.qmin ≤ r ∧ r ≤ b64.qmax ∧ 0 < d ∧
    own_z x = ((c * 2 ^ (q - b64.qmin).toNat : Nat) : Int) ∧ own_z y = ((d * 2 ^ (r - b64.qmin).toNat : Nat) : Int) ∧ val64 (ddiv x y) ≠ .nan ∧ ∃ s, own_z (ddiv x y) = (zmag b64 (roundRatio b64 s c d (q - r)) : Int) := by
  obtain ⟨s, c, q, e1⟩ := hx
  obtain ⟨t, d, r, e2⟩ := hy
  have f1 := (e1 ▸ val64_fits x : Jvm.FP.Core.fits b64 (.fin s c q))
  have f2 := (e2 ▸ val64_fits y : Jvm.FP.Core.fits b64 (.fin t d r))
  rw [own_zv e1] at px
  rw [own_zv e2] at py
  have d0 : d ≠ 0 := fun k => by rw [k, Nat.zero_mul, signed_zero] at py; exact Int.lt_irrefl _ py
  refine ⟨c, d, q, r, f1.2.1, f1.2.2.1, f2.2.1, f2.2.2.1, Nat.pos_of_ne_zero d0, by rw [own_zv e1, own_nonneg px], by rw [own_zv e2, own_nonneg (Int.le_of_lt py)], ?_, (s != t), ?_⟩
  · rw [own_quot e1 e2 d0]; exact roundRatio_ne_nan _ _ _ _ _
  · show zval b64 (val64 (ddiv x y)) = _
    rw [own_quot e1 e2 d0]
    by_cases hz : c = 0
    · have k : zval b64 (roundRatio b64 (s != t) c d (q - r)) = 0 := by rw [hz]; exact own_rr0 _ _ _
      have k2 := k
      unfold zval at k2
      rw [signed_eq_zero] at k2
      rw [k, k2]; rfl
    · have sx : s = false := by
        cases s
        · rfl
        · exfalso
          have := Nat.mul_pos (Nat.pos_of_ne_zero hz) (Nat.two_pow_pos (q - b64.qmin).toNat)
          simp only [signed, if_true] at px
          omega
      unfold zval
      rw [sgn_roundRatio, own_pos_sign py, sx]
      rfl
theorem own_div_nonneg {x y : UInt64} (hx : DFin x) (hy : DFin y) (px : 0 ≤ own_z x) (py : 0 < own_z y) : val64 (ddiv x y) ≠ .nan ∧ 0 ≤ own_z (ddiv x y) := by
  obtain ⟨c, d, q, r, -, -, -, -, -, -, -, h1, s, h2⟩ := own_div_mag hx hy px py
  exact ⟨h1, by rw [h2]; exact Int.natCast_nonneg _⟩
theorem own_mag_val {w : UInt64} (pw : 0 ≤ own_z w) : own_z w = (zmag b64 (val64 w) : Int) := own_nonneg pw
theorem own_div_le {x y w : UInt64} (hx : DFin x) (hy : DFin y) (px : 0 ≤ own_z x) (py : 0 < own_z y) (hw : val64 w ≠ .nan) (pw : 0 ≤ own_z w) (h : own_z x * (own_U : Int) ≤ own_z w * own_z y) : own_z (ddiv x y) ≤ own_z w := by
  obtain ⟨c, d, q, r, q1, q2, q3, q4, d0, zx, zy, -, s, zq⟩ := own_div_mag hx hy px py
  have hq := qmin_b64
  have hm : b64.qmax = 971 := by decide
  rw [zq, own_mag_val pw]
  rw [zx, zy, own_mag_val pw, ← Int.natCast_mul, ← Int.natCast_mul] at h
  have hN : c * 2 ^ (q - b64.qmin).toNat * own_U ≤ zmag b64 (val64 w) * (d * 2 ^ (r - b64.qmin).toNat) := Int.ofNat_le.mp h
  have hP : c * 2 ^ ((q - b64.qmin).toNat + 1074) ≤ zmag b64 (val64 w) * d * 2 ^ (r - b64.qmin).toNat := by
    rw [Nat.pow_add, ← Nat.mul_assoc, Nat.mul_assoc (zmag b64 (val64 w)), ← own_U_eq]
    exact hN
  have hC : c * 2 ^ (q - r - (-4000)).toNat ≤ zmag b64 (val64 w) * d * 2 ^ (b64.qmin - (-4000)).toNat := own_pow_shift_le hP (by omega)
  refine Int.ofNat_le.mpr (zmag_roundRatio_le good_b64 (e0 := -4000) d0 (val64_fits w) hw (by omega) (by omega) ?_)
  unfold inUnits
  exact Nat.le_trans hC (Nat.le_of_eq (Nat.mul_right_comm _ _ _))
theorem own_div_ge {x y w : UInt64} (hx : DFin x) (hy : DFin y) (px : 0 ≤ own_z x) (py : 0 < own_z y) (pw : 0 ≤ own_z w) (h : own_z w * own_z y ≤ own_z x * (own_U : Int)) : own_z w ≤ own_z (ddiv x y) := by
  obtain ⟨c, d, q, r, q1, q2, q3, q4, d0, zx, zy, -, s, zq⟩ := own_div_mag hx hy px py
  have hq := qmin_b64
  have hm : b64.qmax = 971 := by decide
  rw [zq, own_mag_val pw]
  rw [zx, zy, own_mag_val pw, ← Int.natCast_mul, ← Int.natCast_mul] at h
  have hN : zmag b64 (val64 w) * (d * 2 ^ (r - b64.qmin).toNat) ≤ c * 2 ^ (q - b64.qmin).toNat * own_U := Int.ofNat_le.mp h
  have hP : zmag b64 (val64 w) * d * 2 ^ (r - b64.qmin).toNat ≤ c * 2 ^ ((q - b64.qmin).toNat + 1074) := by
    rw [Nat.pow_add, ← Nat.mul_assoc, Nat.mul_assoc (zmag b64 (val64 w)), ← own_U_eq]
    exact hN
  have hC : zmag b64 (val64 w) * d * 2 ^ (b64.qmin - (-4000)).toNat ≤ c * 2 ^ (q - r - (-4000)).toNat := own_pow_shift_le hP (by omega)
  refine Int.ofNat_le.mpr (zmag_roundRatio_ge good_b64 (e0 := -4000) d0 (val64_fits w) (by omega) (by omega) ?_)
  unfold inUnits
  exact Nat.le_trans (Nat.le_of_eq (Nat.mul_right_comm _ _ _)) hC
/-- x is finite and is n / 2^k -/
def own_is (x : UInt64) (n : Int) (k : Nat) : Prop := DFin x ∧ own_z x * ((2 ^ k : Nat) : Int) = n * (own_U : Int)
theorem own_two_pos (k : Nat) : (0 : Int) < ((2 ^ k : Nat) : Int) := Int.natCast_pos.mpr (Nat.two_pow_pos k)
theorem own_U_split {k : Nat} (hk : k ≤ 1074) : (own_U : Int) = ((2 ^ (1074 - k) : Nat) : Int) * ((2 ^ k : Nat) : Int) := by
  rw [← Int.natCast_mul, ← Nat.pow_add, Nat.sub_add_cancel hk, own_U_eq]
theorem own_rep_of {z n : Int} {k : Nat} (h : z * ((2 ^ k : Nat) : Int) = n * (own_U : Int)) (hn : n.natAbs < 2 ^ 53) (hk : k ≤ 1074) : z = n * ((2 ^ (1074 - k) : Nat) : Int) ∧ own_rep z := by
  have e : z = n * ((2 ^ (1074 - k) : Nat) : Int) := by
    rw [own_U_split hk, ← Int.mul_assoc] at h
    exact Int.eq_of_mul_eq_mul_right (Int.ne_of_gt (own_two_pos k)) h
  exact ⟨e, n, 1074 - k, e, hn, by omega⟩
theorem own_is.nn {x : UInt64} {n : Int} {k : Nat} (h : own_is x n k) : Jvm.Free.Fl.NoNaN64 x := Jvm.Free.Fl.noNaN64_no.mpr ((notNaN_iff x).mpr (by obtain ⟨⟨s, c, q, e⟩, -⟩ := h; rw [e]; exact fun q => Datum.noConfusion q))
theorem own_is.fin {x : UInt64} {n : Int} {k : Nat} (h : own_is x n k) : Jvm.Free.Fl.Fin64 x := Jvm.Free.Fl.fin64_core.mpr h.1
theorem own_is.val {x : UInt64} {n : Int} {k : Nat} (h : own_is x n k) : val64 x ≠ .nan := by obtain ⟨⟨s, c, q, e⟩, -⟩ := h; rw [e]; exact fun q => Datum.noConfusion q
theorem own_is.add {x y : UInt64} {n m : Int} {k : Nat} (hx : own_is x n k) (hy : own_is y m k) (hn : (n + m).natAbs < 2 ^ 53) (hk : k ≤ 1074) : own_is (dadd x y) (n + m) k := by
  have e : (own_z x + own_z y) * ((2 ^ k : Nat) : Int) = (n + m) * (own_U : Int) := by rw [Int.add_mul, Int.add_mul, hx.2, hy.2]
  obtain ⟨a, b⟩ := own_add hx.1 hy.1 (own_rep_of e hn hk).2
  exact ⟨a, by rw [b]; exact e⟩
theorem own_is.sub {x y : UInt64} {n m : Int} {k : Nat} (hx : own_is x n k) (hy : own_is y m k) (hn : (n - m).natAbs < 2 ^ 53) (hk : k ≤ 1074) : own_is (dsub x y) (n - m) k := by
  have e : (own_z x - own_z y) * ((2 ^ k : Nat) : Int) = (n - m) * (own_U : Int) := by rw [Int.sub_mul, Int.sub_mul, hx.2, hy.2]
  obtain ⟨a, b⟩ := own_sub hx.1 hy.1 (own_rep_of e hn hk).2
  exact ⟨a, by rw [b]; exact e⟩
theorem own_is.mul {x y : UInt64} {n m : Int} {k j : Nat} (hx : own_is x n k) (hy : own_is y m j) (hn : (n * m).natAbs < 2 ^ 53) (hk : k + j ≤ 1074) : own_is (dmul x y) (n * m) (k + j) := by
  have hp : ((2 ^ (k + j) : Nat) : Int) = ((2 ^ k : Nat) : Int) * ((2 ^ j : Nat) : Int) := by rw [Nat.pow_add, Int.natCast_mul]
  have e0 : n * m * ((2 ^ (1074 - (k + j)) : Nat) : Int) * ((2 ^ (k + j) : Nat) : Int) = n * m * (own_U : Int) := by rw [own_U_split hk, Int.mul_assoc]
  have e : own_z x * own_z y = n * m * ((2 ^ (1074 - (k + j)) : Nat) : Int) * (own_U : Int) := by
    refine Int.eq_of_mul_eq_mul_right (Int.ne_of_gt (own_two_pos (k + j))) ?_
    calc own_z x * own_z y * ((2 ^ (k + j) : Nat) : Int) = (own_z x * ((2 ^ k : Nat) : Int)) * (own_z y * ((2 ^ j : Nat) : Int)) := by rw [hp]; ac_rfl
      _ = (n * (own_U : Int)) * (m * (own_U : Int)) := by rw [hx.2, hy.2]
      _ = n * m * (own_U : Int) * (own_U : Int) := by ac_rfl
      _ = n * m * ((2 ^ (1074 - (k + j)) : Nat) : Int) * ((2 ^ (k + j) : Nat) : Int) * (own_U : Int) := by rw [e0]
      _ = n * m * ((2 ^ (1074 - (k + j)) : Nat) : Int) * (own_U : Int) * ((2 ^ (k + j) : Nat) : Int) := by ac_rfl
  obtain ⟨a, b⟩ := own_mul hx.1 hy.1 (own_rep_of e0 hn hk).2 e
  exact ⟨a, by rw [b]; exact e0⟩
theorem own_is.div {x y : UInt64} {n m q : Int} {k j i : Nat} (hx : own_is x n k) (hy : own_is y m j) (pn : 0 ≤ n) (pm : 0 < m) (hq : q.natAbs < 2 ^ 53) (hi : i ≤ 1074)
    (h : n * ((2 ^ j : Nat) : Int) * ((2 ^ i : Nat) : Int) = q * m * ((2 ^ k : Nat) : Int)) : own_is (ddiv x y) q i := by
  have e0 : q * ((2 ^ (1074 - i) : Nat) : Int) * ((2 ^ i : Nat) : Int) = q * (own_U : Int) := by rw [own_U_split hi, Int.mul_assoc]
  have px : 0 ≤ own_z x := by
    refine Int.not_lt.mp fun z => ?_
    have h1 := Int.mul_neg_of_neg_of_pos z (own_two_pos k)
    have h2 := Int.mul_nonneg pn (Int.le_of_lt own_U_pos)
    rw [hx.2] at h1; omega
  have py : 0 < own_z y := by
    refine Int.not_le.mp fun z => ?_
    have h1 : own_z y * ((2 ^ j : Nat) : Int) ≤ 0 := Int.mul_nonpos_of_nonpos_of_nonneg z (Int.le_of_lt (own_two_pos j))
    have h2 := Int.mul_pos pm own_U_pos
    rw [hy.2] at h1; omega
  have e : own_z x * (own_U : Int) = q * ((2 ^ (1074 - i) : Nat) : Int) * own_z y := by
    refine Int.eq_of_mul_eq_mul_right (Int.ne_of_gt (Int.mul_pos (Int.mul_pos (own_two_pos k) (own_two_pos j)) (own_two_pos i))) ?_
    calc own_z x * (own_U : Int) * (((2 ^ k : Nat) : Int) * ((2 ^ j : Nat) : Int) * ((2 ^ i : Nat) : Int)) = (own_z x * ((2 ^ k : Nat) : Int)) * (own_U : Int) * ((2 ^ j : Nat) : Int) * ((2 ^ i : Nat) : Int) := by ac_rfl
      _ = (n * ((2 ^ j : Nat) : Int) * ((2 ^ i : Nat) : Int)) * (own_U : Int) * (own_U : Int) := by rw [hx.2]; ac_rfl
      _ = (q * (own_U : Int)) * (m * (own_U : Int)) * ((2 ^ k : Nat) : Int) := by rw [h]; ac_rfl
      _ = (q * ((2 ^ (1074 - i) : Nat) : Int) * ((2 ^ i : Nat) : Int)) * (own_z y * ((2 ^ j : Nat) : Int)) * ((2 ^ k : Nat) : Int) := by rw [e0, hy.2]
      _ = q * ((2 ^ (1074 - i) : Nat) : Int) * own_z y * (((2 ^ k : Nat) : Int) * ((2 ^ j : Nat) : Int) * ((2 ^ i : Nat) : Int)) := by ac_rfl
  obtain ⟨a, b⟩ := own_div hx.1 hy.1 px py (own_rep_of e0 hq hi).2 e
  exact ⟨a, by rw [b]; exact e0⟩
theorem own_is.scale {x : UInt64} {n : Int} {k : Nat} (h : own_is x n k) (i : Nat) : own_is x (n * ((2 ^ i : Nat) : Int)) (k + i) := by
  refine ⟨h.1, ?_⟩
  rw [Nat.pow_add, Int.natCast_mul, ← Int.mul_assoc, h.2]; ac_rfl
theorem own_is.l2d {a : Int64} (h : a.toInt.natAbs < 2 ^ 53) : own_is (l2d a) a.toInt 0 := by
  refine ⟨l2d_fin a, ?_⟩
  have hs : Small53 a := by unfold Small53; omega
  have e := whole_zval good_b64 (val64_fits (Jvm.FP.Core.l2d a)) (l2d_whole hs)
  rw [show (-b64.qmin).toNat = 1074 by rw [qmin_b64]; rfl] at e
  show zval b64 (val64 (Jvm.FP.Core.l2d a)) * _ = _
  rw [e, Nat.pow_zero]
  show _ * (1 : Int) = _
  rw [Int.mul_one, own_U_eq]
theorem own_is.i2d (a : Int32) : own_is (i2d a) a.toInt 0 := by
  rw [i2d_l2d]
  have h := own_is.l2d (a := a.toInt64) (by rw [Int32.toInt_toInt64]; have := a.le_toInt; have := a.toInt_lt; omega)
  rw [Int32.toInt_toInt64] at h
  exact h
theorem own_is.lt_iff {x y : UInt64} {n m : Int} {k : Nat} (hx : own_is x n k) (hy : own_is y m k) : own_z x < own_z y ↔ n < m := by
  have h1 : own_z x * ((2 ^ k : Nat) : Int) < own_z y * ((2 ^ k : Nat) : Int) ↔ own_z x < own_z y := Int.mul_lt_mul_right (own_two_pos k)
  rw [← h1, hx.2, hy.2]
  exact Int.mul_lt_mul_right own_U_pos
theorem own_is.eq_iff {x y : UInt64} {n m : Int} {k : Nat} (hx : own_is x n k) (hy : own_is y m k) : own_z x = own_z y ↔ n = m := by
  have h1 := hx.lt_iff hy
  have h2 := hy.lt_iff hx
  omega
theorem own_cmp_eq {x y : UInt64} (h1 : val64 x ≠ .nan) (h2 : val64 y ≠ .nan) (h : own_z x = own_z y) (o : ClassFile.CmpOp) : Jvm.Op.cmpValue (FP.dcmp x y) o = 0 := by
  rw [show FP.dcmp x y = some .eq from dcmp_eq.mpr ⟨h1, h2, h⟩]; rfl
theorem own_cmp_lt {x y : UInt64} (h1 : val64 x ≠ .nan) (h2 : val64 y ≠ .nan) (h : own_z x < own_z y) (o : ClassFile.CmpOp) : Jvm.Op.cmpValue (FP.dcmp x y) o = -1 := by
  rw [show FP.dcmp x y = some .lt from dcmp_lt.mpr ⟨h1, h2, h⟩]; rfl
theorem own_cmp_gt {x y : UInt64} (h1 : val64 x ≠ .nan) (h2 : val64 y ≠ .nan) (h : own_z y < own_z x) (o : ClassFile.CmpOp) : Jvm.Op.cmpValue (FP.dcmp x y) o = 1 := by
  rw [show FP.dcmp x y = some .gt from dcmp_gt.mpr ⟨h1, h2, h⟩]; rfl
theorem own_cmp_ge {x y : UInt64} (h1 : val64 x ≠ .nan) (h2 : val64 y ≠ .nan) (h : own_z y ≤ own_z x) (o : ClassFile.CmpOp) : ¬ Jvm.Op.cmpValue (FP.dcmp x y) o < 0 := by
  by_cases e : own_z x = own_z y
  · rw [own_cmp_eq h1 h2 e]; decide
  · rw [own_cmp_gt h1 h2 (by omega)]; decide
theorem own_cmp_le {x y : UInt64} (h1 : val64 x ≠ .nan) (h2 : val64 y ≠ .nan) (h : own_z x ≤ own_z y) (o : ClassFile.CmpOp) : ¬ 0 < Jvm.Op.cmpValue (FP.dcmp x y) o := by
  by_cases e : own_z x = own_z y
  · rw [own_cmp_eq h1 h2 e]; decide
  · rw [own_cmp_lt h1 h2 (by omega)]; decide
theorem own_nn_of {x : UInt64} (h : val64 x ≠ .nan) : Jvm.Free.Fl.NoNaN64 x := Jvm.Free.Fl.noNaN64_no.mpr ((notNaN_iff x).mpr h)
theorem own_is.nonneg {x : UInt64} {n : Int} {k : Nat} (hx : own_is x n k) (pn : 0 ≤ n) : 0 ≤ own_z x := by
  refine Int.not_lt.mp fun z => ?_
  have h1 := Int.mul_neg_of_neg_of_pos z (own_two_pos k)
  have h2 := Int.mul_nonneg pn (Int.le_of_lt own_U_pos)
  rw [hx.2] at h1; omega
theorem own_is.pos {x : UInt64} {n : Int} {k : Nat} (hx : own_is x n k) (pn : 0 < n) : 0 < own_z x := by
  refine Int.not_le.mp fun z => ?_
  have h1 : own_z x * ((2 ^ k : Nat) : Int) ≤ 0 := Int.mul_nonpos_of_nonpos_of_nonneg z (Int.le_of_lt (own_two_pos k))
  have h2 := Int.mul_pos pn own_U_pos
  rw [hx.2] at h1; omega
theorem own_is.z {x : UInt64} {n : Int} (hx : own_is x n 0) : own_z x = n * (own_U : Int) := by
  have h := hx.2
  rw [Nat.pow_zero] at h
  exact (Int.mul_one _).symm.trans h
theorem own_is.ceq {x y : UInt64} {n m : Int} {k : Nat} (hx : own_is x n k) (hy : own_is y m k) (h : n = m) (o : ClassFile.CmpOp) : Jvm.Op.cmpValue (FP.dcmp x y) o = 0 := own_cmp_eq hx.val hy.val ((hx.eq_iff hy).mpr h) o
theorem own_is.clt {x y : UInt64} {n m : Int} {k : Nat} (hx : own_is x n k) (hy : own_is y m k) (h : n < m) (o : ClassFile.CmpOp) : Jvm.Op.cmpValue (FP.dcmp x y) o = -1 := own_cmp_lt hx.val hy.val ((hx.lt_iff hy).mpr h) o
theorem own_is.cgt {x y : UInt64} {n m : Int} {k : Nat} (hx : own_is x n k) (hy : own_is y m k) (h : m < n) (o : ClassFile.CmpOp) : Jvm.Op.cmpValue (FP.dcmp x y) o = 1 := own_cmp_gt hx.val hy.val ((hy.lt_iff hx).mpr h) o
theorem own_is.zero : own_is FP.dconst0 0 0 := by
  refine ⟨⟨_, _, _, val64_dconst0⟩, ?_⟩
  show zval b64 (val64 dconst0) * _ = _
  rw [val64_dconst0, Int.zero_mul]
  show signed false (0 * _) * _ = _
  rw [Nat.zero_mul, signed_zero, Int.zero_mul]
theorem own_is.one : own_is FP.dconst1 1 0 := by
  refine ⟨⟨_, _, _, val64_dconst1⟩, ?_⟩
  show zval b64 (val64 dconst1) * _ = _
  rw [val64_dconst1, own_U_eq]
  decide +kernel
end Jvm.OwnFl
namespace Jvm.Pilot.@@N@@
open Jvm Jvm.ClassFile Sem Op Lib Jvm.Free Jvm.Stand Jvm.LawKit Jvm.RoadKit Bundle Jvm.Free.Fl Jvm.OwnFl Jvm.Pilot.@@N@@.Jvm.D
theorem own_hw {a0 : Array Value} {Z : State} (hw : ∀ d ∈ tables_1, d.before a0 Z = true) (i : Nat) {d : Jvm.Cond} (h : tables_1[i]? = some d) : d.before a0 Z = true := hw d (List.mem_of_getElem? h)
section OwnKit
variable {p : Program} {l : Launch} {e : Env} {R : Room} {s : State} {m : MethodId} {args : Array Value} {below : List Frame} {meth : Method} {c : Code} {T : State} {locs : List Loc} {cells slots : Nat}
/-- from the state t the run goes on to a return of which Q holds -/
def own_Go (p : Program) (e : Env) (below : List Frame) (Fe : Outcome → State → List Loc → Prop) (Q : Option Value → Heap → List Loc → Prop) (t : State) : Prop :=
  ∃ s₂ o, Steps p.tables e below t s₂ ∧ s₂.status = .running ∧ Ended s₂ below o ∧ ∃ v L, o = .returned v ∧ Q v s₂.heap L ∧ Fe o s₂ L
theorem own_st {Fe : Outcome → State → List Loc → Prop} {Q : Option Value → Heap → List Loc → Prop} {t t' : State} (h : ∀ target, Steps p.tables e below t' target → Steps p.tables e below t target) (k : own_Go p e below Fe Q t') : own_Go p e below Fe Q t := by
  obtain ⟨s₂, o, h1, r⟩ := k
  exact ⟨s₂, o, h _ h1, r⟩
theorem own_tr {Fe : Outcome → State → List Loc → Prop} {Q : Option Value → Heap → List Loc → Prop} {t t' : State} (h : Steps p.tables e below t t') (k : own_Go p e below Fe Q t') : own_Go p e below Fe Q t := own_st (fun _ q => h.trans q) k
theorem own_ret (X : Stand p l e R s m args below meth c T locs cells slots) {K N : Nat} {Q : Option Value → Heap → List Loc → Prop} {t : State} (v : Option Value) (hv : meth.sig.returnType = none → v = none) (hlocks : meth.locks = false) (hK : cells ≤ K) (hN : slots ≤ N) (hQ : Q v T.heap locs)
    (hs : ∀ fs : List Frame, (∀ (f : JFrame) (acts : List Action), f.method = m → f.locked = none → f.entered = [] → (doReturn e (T.setTop f) acts v).1 = T.setFrames fs) → Steps p.tables e below t (T.setFrames fs)) : own_Go p e below (fun o u L => FrameEnd s o u L K N) Q t := by
  obtain ⟨fs, hr, hrun, hended, hW, hsame⟩ := X.leave (v := v) hv
  exact ⟨_, _, hs fs hr, hrun, hended, _, _, rfl, hQ, ⟨_, rfl⟩, hW, hsame.mono hK hN⟩
theorem own_retI (X : Stand p l e R s m args below meth c T locs cells slots) (hx : p.tables.exec = Jvm.exec) {pc : Nat} {Ls : Array Slot} {z : Int32} {rest : List Value} (hret : meth.sig.returnType = some .int) (hd : decode c.code pc = .ok (.ireturn, 1)) {fs : List Frame}
    (hl : ∀ (f : JFrame) (acts : List Action), f.method = m → f.locked = none → f.entered = [] → (doReturn e (T.setTop f) acts (some (.int z))).1 = T.setFrames fs) : Steps p.tables e below (T.setTop (mkF m pc Ls (.int z :: rest))) (T.setFrames fs) :=
  retOut X hx hret rfl (Or.inl ⟨rfl, Or.inl rfl, _, rfl⟩) hd hl
theorem own_retD (X : Stand p l e R s m args below meth c T locs cells slots) (hx : p.tables.exec = Jvm.exec) {pc : Nat} {Ls : Array Slot} {z : UInt64} {rest : List Value} (hret : meth.sig.returnType = some .double) (hd : decode c.code pc = .ok (.dreturn, 1)) {fs : List Frame}
    (hl : ∀ (f : JFrame) (acts : List Action), f.method = m → f.locked = none → f.entered = [] → (doReturn e (T.setTop f) acts (some (.double z))).1 = T.setFrames fs) : Steps p.tables e below (T.setTop (mkF m pc Ls (.double z :: rest))) (T.setFrames fs) :=
  retOut X hx hret rfl (Or.inr (Or.inr (Or.inl ⟨rfl, rfl, _, rfl⟩))) hd hl
theorem own_retJ (X : Stand p l e R s m args below meth c T locs cells slots) (hx : p.tables.exec = Jvm.exec) {pc : Nat} {Ls : Array Slot} {z : Int64} {rest : List Value} (hret : meth.sig.returnType = some .long) (hd : decode c.code pc = .ok (.lreturn, 1)) {fs : List Frame}
    (hl : ∀ (f : JFrame) (acts : List Action), f.method = m → f.locked = none → f.entered = [] → (doReturn e (T.setTop f) acts (some (.long z))).1 = T.setFrames fs) : Steps p.tables e below (T.setTop (mkF m pc Ls (.long z :: rest))) (T.setFrames fs) :=
  retOut X hx hret rfl (Or.inr (Or.inl ⟨rfl, rfl, _, rfl⟩)) hd hl
theorem own_retR (X : Stand p l e R s m args below meth c T locs cells slots) (hx : p.tables.exec = Jvm.exec) {pc : Nat} {Ls : Array Slot} {w : Value} {rest : List Value} {t : FieldType} (hret : meth.sig.returnType = some t) (ht : t.isReference = true) (hw : w.isRef = true) (hd : decode c.code pc = .ok (.areturn, 1)) {fs : List Frame}
    (hl : ∀ (f : JFrame) (acts : List Action), f.method = m → f.locked = none → f.entered = [] → (doReturn e (T.setTop f) acts (some w)).1 = T.setFrames fs) : Steps p.tables e below (T.setTop (mkF m pc Ls (w :: rest))) (T.setFrames fs) :=
  retOut X hx hret (by cases t <;> first | (cases ht; done) | rfl) (Or.inr (Or.inr (Or.inr (Or.inr ⟨rfl, ht, hw⟩)))) hd hl
theorem own_staKeep {Z : State} {h h' : Heap} {C n d : String} {v : Value} {ws : List Addr} (F : Sta Z h C n d v) (K : Keep h h' ws) (hn : ∀ x ∈ ws, ∀ cell : Cell, h[x]? = some cell → cell.vm.isStatics = false) : Sta Z h' C n d v := by
  obtain ⟨cf, i, k, f, st, cell, h1, h2, h3, h4, h5, h6, h7⟩ := F
  exact ⟨cf, i, k, f, st, cell, h1, h2, h3, h4, K.2.1 st cell h5 (fun q => by have := hn st q cell h5; rw [h6] at this; cases this), h6, h7⟩
end OwnKit
section OwnSteps
variable {p : Program} {l : Launch} {e : Env} {R : Room} {s : State} {m : MethodId} {args : Array Value} {below : List Frame} {meth : Method} {c : Code} {T : State} {locs : List Loc} {cells slots : Nat} {Fe : Outcome → State → List Loc → Prop} {Q : Option Value → Heap → List Loc → Prop} {pc : Nat} {Ls : Array Slot} {st : List Value} {Z : State} {a0 : Array Value} {h : Heap}
theorem own_iload (X : Stand p l e R s m args below meth c T locs cells slots) (hx : p.tables.exec = Jvm.exec) {i : Nat} {v : Int32} (pc' : Nat) (hp : pc + 2 = pc') (hd : decode c.code pc = .ok (.iload i, 2)) (hl : Ls[i]? = some (.val (.int v))) (k : own_Go p e below Fe Q (T.setTop (mkF m pc' Ls (.int v :: st)))) : own_Go p e below Fe Q (T.setTop (mkF m pc Ls (st))) := by
  subst hp
  exact own_st (fun _ hr => XS.iload X.here hx rfl hd hl hr) k
theorem own_iloadN (X : Stand p l e R s m args below meth c T locs cells slots) (hx : p.tables.exec = Jvm.exec) {i : Fin 4} {v : Int32} (pc' : Nat) (hp : pc + 1 = pc') (hd : decode c.code pc = .ok (.iload_n i, 1)) (hl : Ls[i.val]? = some (.val (.int v))) (k : own_Go p e below Fe Q (T.setTop (mkF m pc' Ls (.int v :: st)))) : own_Go p e below Fe Q (T.setTop (mkF m pc Ls (st))) := by
  subst hp
  exact own_st (fun _ hr => XS.iloadN X.here hx rfl hd hl hr) k
theorem own_istore (X : Stand p l e R s m args below meth c T locs cells slots) (hx : p.tables.exec = Jvm.exec) {i : Nat} {x : Int32} (pc' : Nat) (hp : pc + 2 = pc') (hd : decode c.code pc = .ok (.istore i, 2)) (Ls' : Array Slot) (hl : storeLocals Ls i (.int x) = some Ls') (k : own_Go p e below Fe Q (T.setTop (mkF m pc' Ls' (st)))) : own_Go p e below Fe Q (T.setTop (mkF m pc Ls (.int x :: st))) := by
  subst hp
  exact own_st (fun _ hr => XS.istore X.here hx rfl hd rfl hl hr) k
theorem own_istoreN (X : Stand p l e R s m args below meth c T locs cells slots) (hx : p.tables.exec = Jvm.exec) {i : Fin 4} {x : Int32} (pc' : Nat) (hp : pc + 1 = pc') (hd : decode c.code pc = .ok (.istore_n i, 1)) (Ls' : Array Slot) (hl : storeLocals Ls i.val (.int x) = some Ls') (k : own_Go p e below Fe Q (T.setTop (mkF m pc' Ls' (st)))) : own_Go p e below Fe Q (T.setTop (mkF m pc Ls (.int x :: st))) := by
  subst hp
  exact own_st (fun _ hr => XS.istoreN X.here hx rfl hd rfl hl hr) k
theorem own_lload (X : Stand p l e R s m args below meth c T locs cells slots) (hx : p.tables.exec = Jvm.exec) {i : Nat} {v : Int64} (pc' : Nat) (hp : pc + 2 = pc') (hd : decode c.code pc = .ok (.lload i, 2)) (hl : Ls[i]? = some (.val (.long v))) (k : own_Go p e below Fe Q (T.setTop (mkF m pc' Ls (.long v :: st)))) : own_Go p e below Fe Q (T.setTop (mkF m pc Ls (st))) := by
  subst hp
  exact own_st (fun _ hr => XS.lload X.here hx rfl hd hl hr) k
theorem own_lloadN (X : Stand p l e R s m args below meth c T locs cells slots) (hx : p.tables.exec = Jvm.exec) {i : Fin 4} {v : Int64} (pc' : Nat) (hp : pc + 1 = pc') (hd : decode c.code pc = .ok (.lload_n i, 1)) (hl : Ls[i.val]? = some (.val (.long v))) (k : own_Go p e below Fe Q (T.setTop (mkF m pc' Ls (.long v :: st)))) : own_Go p e below Fe Q (T.setTop (mkF m pc Ls (st))) := by
  subst hp
  exact own_st (fun _ hr => XS.lloadN X.here hx rfl hd hl hr) k
theorem own_lstore (X : Stand p l e R s m args below meth c T locs cells slots) (hx : p.tables.exec = Jvm.exec) {i : Nat} {x : Int64} (pc' : Nat) (hp : pc + 2 = pc') (hd : decode c.code pc = .ok (.lstore i, 2)) (Ls' : Array Slot) (hl : storeLocals Ls i (.long x) = some Ls') (k : own_Go p e below Fe Q (T.setTop (mkF m pc' Ls' (st)))) : own_Go p e below Fe Q (T.setTop (mkF m pc Ls (.long x :: st))) := by
  subst hp
  exact own_st (fun _ hr => XS.lstore X.here hx rfl hd rfl hl hr) k
theorem own_lstoreN (X : Stand p l e R s m args below meth c T locs cells slots) (hx : p.tables.exec = Jvm.exec) {i : Fin 4} {x : Int64} (pc' : Nat) (hp : pc + 1 = pc') (hd : decode c.code pc = .ok (.lstore_n i, 1)) (Ls' : Array Slot) (hl : storeLocals Ls i.val (.long x) = some Ls') (k : own_Go p e below Fe Q (T.setTop (mkF m pc' Ls' (st)))) : own_Go p e below Fe Q (T.setTop (mkF m pc Ls (.long x :: st))) := by
  subst hp
  exact own_st (fun _ hr => XS.lstoreN X.here hx rfl hd rfl hl hr) k
theorem own_dload (X : Stand p l e R s m args below meth c T locs cells slots) (hx : p.tables.exec = Jvm.exec) {i : Nat} {v : UInt64} (pc' : Nat) (hp : pc + 2 = pc') (hd : decode c.code pc = .ok (.dload i, 2)) (hl : Ls[i]? = some (.val (.double v))) (k : own_Go p e below Fe Q (T.setTop (mkF m pc' Ls (.double v :: st)))) : own_Go p e below Fe Q (T.setTop (mkF m pc Ls (st))) := by
  subst hp
  exact own_st (fun _ hr => XS.dload X.here hx rfl hd hl hr) k
theorem own_dloadN (X : Stand p l e R s m args below meth c T locs cells slots) (hx : p.tables.exec = Jvm.exec) {i : Fin 4} {v : UInt64} (pc' : Nat) (hp : pc + 1 = pc') (hd : decode c.code pc = .ok (.dload_n i, 1)) (hl : Ls[i.val]? = some (.val (.double v))) (k : own_Go p e below Fe Q (T.setTop (mkF m pc' Ls (.double v :: st)))) : own_Go p e below Fe Q (T.setTop (mkF m pc Ls (st))) := by
  subst hp
  exact own_st (fun _ hr => XS.dloadN X.here hx rfl hd hl hr) k
theorem own_dstore (X : Stand p l e R s m args below meth c T locs cells slots) (hx : p.tables.exec = Jvm.exec) {i : Nat} {x : UInt64} (pc' : Nat) (hp : pc + 2 = pc') (hd : decode c.code pc = .ok (.dstore i, 2)) (Ls' : Array Slot) (hl : storeLocals Ls i (.double x) = some Ls') (k : own_Go p e below Fe Q (T.setTop (mkF m pc' Ls' (st)))) : own_Go p e below Fe Q (T.setTop (mkF m pc Ls (.double x :: st))) := by
  subst hp
  exact own_st (fun _ hr => XS.dstore X.here hx rfl hd rfl hl hr) k
theorem own_dstoreN (X : Stand p l e R s m args below meth c T locs cells slots) (hx : p.tables.exec = Jvm.exec) {i : Fin 4} {x : UInt64} (pc' : Nat) (hp : pc + 1 = pc') (hd : decode c.code pc = .ok (.dstore_n i, 1)) (Ls' : Array Slot) (hl : storeLocals Ls i.val (.double x) = some Ls') (k : own_Go p e below Fe Q (T.setTop (mkF m pc' Ls' (st)))) : own_Go p e below Fe Q (T.setTop (mkF m pc Ls (.double x :: st))) := by
  subst hp
  exact own_st (fun _ hr => XS.dstoreN X.here hx rfl hd rfl hl hr) k
theorem own_aload (X : Stand p l e R s m args below meth c T locs cells slots) (hx : p.tables.exec = Jvm.exec) {i : Nat} {v : Value} (pc' : Nat) (hp : pc + 2 = pc') (hd : decode c.code pc = .ok (.aload i, 2)) (hl : Ls[i]? = some (.val v)) (hv : v.isRef = true) (k : own_Go p e below Fe Q (T.setTop (mkF m pc' Ls (v :: st)))) : own_Go p e below Fe Q (T.setTop (mkF m pc Ls (st))) := by
  subst hp
  exact own_st (fun _ hr => XS.aload X.here hx rfl hd hl hv hr) k
theorem own_aloadN (X : Stand p l e R s m args below meth c T locs cells slots) (hx : p.tables.exec = Jvm.exec) {i : Fin 4} {v : Value} (pc' : Nat) (hp : pc + 1 = pc') (hd : decode c.code pc = .ok (.aload_n i, 1)) (hl : Ls[i.val]? = some (.val v)) (hv : v.isRef = true) (k : own_Go p e below Fe Q (T.setTop (mkF m pc' Ls (v :: st)))) : own_Go p e below Fe Q (T.setTop (mkF m pc Ls (st))) := by
  subst hp
  exact own_st (fun _ hr => XS.aloadN X.here hx rfl hd hl hv hr) k
theorem own_astore (X : Stand p l e R s m args below meth c T locs cells slots) (hx : p.tables.exec = Jvm.exec) {i : Nat} {x : Value} (pc' : Nat) (hp : pc + 2 = pc') (hd : decode c.code pc = .ok (.astore i, 2)) (hv : x.isRef = true) (Ls' : Array Slot) (hl : storeLocals Ls i x = some Ls') (k : own_Go p e below Fe Q (T.setTop (mkF m pc' Ls' (st)))) : own_Go p e below Fe Q (T.setTop (mkF m pc Ls (x :: st))) := by
  subst hp
  exact own_st (fun _ hr => XS.astore X.here hx rfl hd rfl hv hl hr) k
theorem own_astoreN (X : Stand p l e R s m args below meth c T locs cells slots) (hx : p.tables.exec = Jvm.exec) {i : Fin 4} {x : Value} (pc' : Nat) (hp : pc + 1 = pc') (hd : decode c.code pc = .ok (.astore_n i, 1)) (hv : x.isRef = true) (Ls' : Array Slot) (hl : storeLocals Ls i.val x = some Ls') (k : own_Go p e below Fe Q (T.setTop (mkF m pc' Ls' (st)))) : own_Go p e below Fe Q (T.setTop (mkF m pc Ls (x :: st))) := by
  subst hp
  exact own_st (fun _ hr => XS.astoreN X.here hx rfl hd rfl hv hl hr) k
theorem own_iconst (X : Stand p l e R s m args below meth c T locs cells slots) (hx : p.tables.exec = Jvm.exec) {i : Int} (pc' : Nat) (hp : pc + 1 = pc') (hd : decode c.code pc = .ok (.iconst i, 1)) (z : Int32) (hz : Int32.ofInt i = z) (k : own_Go p e below Fe Q (T.setTop (mkF m pc' Ls (.int z :: st)))) : own_Go p e below Fe Q (T.setTop (mkF m pc Ls (st))) := by
  subst hp; subst hz
  exact own_st (fun _ hr => XS.iconst X.here hx rfl hd hr) k
theorem own_bipush (X : Stand p l e R s m args below meth c T locs cells slots) (hx : p.tables.exec = Jvm.exec) {i : Int} (pc' : Nat) (hp : pc + 2 = pc') (hd : decode c.code pc = .ok (.bipush i, 2)) (z : Int32) (hz : (Int8.ofInt i).toInt32 = z) (k : own_Go p e below Fe Q (T.setTop (mkF m pc' Ls (.int z :: st)))) : own_Go p e below Fe Q (T.setTop (mkF m pc Ls (st))) := by
  subst hp; subst hz
  exact own_st (fun _ hr => XS.bipush X.here hx rfl hd hr) k
theorem own_sipush (X : Stand p l e R s m args below meth c T locs cells slots) (hx : p.tables.exec = Jvm.exec) {i : Int} (pc' : Nat) (hp : pc + 3 = pc') (hd : decode c.code pc = .ok (.sipush i, 3)) (z : Int32) (hz : (Int16.ofInt i).toInt32 = z) (k : own_Go p e below Fe Q (T.setTop (mkF m pc' Ls (.int z :: st)))) : own_Go p e below Fe Q (T.setTop (mkF m pc Ls (st))) := by
  subst hp; subst hz
  exact own_st (fun _ hr => XS.sipush X.here hx rfl hd hr) k
theorem own_lconst (X : Stand p l e R s m args below meth c T locs cells slots) (hx : p.tables.exec = Jvm.exec) {i : Fin 2} (pc' : Nat) (hp : pc + 1 = pc') (hd : decode c.code pc = .ok (.lconst i, 1)) (z : Int64) (hz : Int64.ofNat i = z) (k : own_Go p e below Fe Q (T.setTop (mkF m pc' Ls (.long z :: st)))) : own_Go p e below Fe Q (T.setTop (mkF m pc Ls (st))) := by
  subst hp; subst hz
  exact own_st (fun _ hr => XS.lconst X.here hx rfl hd hr) k
theorem own_dconst0 (X : Stand p l e R s m args below meth c T locs cells slots) (hx : p.tables.exec = Jvm.exec)  (pc' : Nat) (hp : pc + 1 = pc') (hd : decode c.code pc = .ok (.dconst 0, 1))  (k : own_Go p e below Fe Q (T.setTop (mkF m pc' Ls (.double FP.dconst0 :: st)))) : own_Go p e below Fe Q (T.setTop (mkF m pc Ls (st))) := by
  subst hp
  exact own_st (fun _ hr => XS.dconst0 X.here hx rfl hd rfl hr) k
theorem own_dconst1 (X : Stand p l e R s m args below meth c T locs cells slots) (hx : p.tables.exec = Jvm.exec)  (pc' : Nat) (hp : pc + 1 = pc') (hd : decode c.code pc = .ok (.dconst 1, 1))  (k : own_Go p e below Fe Q (T.setTop (mkF m pc' Ls (.double FP.dconst1 :: st)))) : own_Go p e below Fe Q (T.setTop (mkF m pc Ls (st))) := by
  subst hp
  exact own_st (fun _ hr => XS.dconst1 X.here hx rfl hd rfl hr) k
theorem own_aconst_null (X : Stand p l e R s m args below meth c T locs cells slots) (hx : p.tables.exec = Jvm.exec)  (pc' : Nat) (hp : pc + 1 = pc') (hd : decode c.code pc = .ok (.aconst_null, 1))  (k : own_Go p e below Fe Q (T.setTop (mkF m pc' Ls (.null :: st)))) : own_Go p e below Fe Q (T.setTop (mkF m pc Ls (st))) := by
  subst hp
  exact own_st (fun _ hr => XS.aconstNull X.here hx rfl hd hr) k
theorem own_iadd (X : Stand p l e R s m args below meth c T locs cells slots) (hx : p.tables.exec = Jvm.exec) {x y : Int32} (pc' : Nat) (hp : pc + 1 = pc') (hd : decode c.code pc = .ok (.iadd, 1)) (z : Int32) (hz : x + y = z) (k : own_Go p e below Fe Q (T.setTop (mkF m pc' Ls (.int z :: st)))) : own_Go p e below Fe Q (T.setTop (mkF m pc Ls (.int y :: .int x :: st))) := by
  subst hp; subst hz
  exact own_st (fun _ hr => XS.iadd X.here hx rfl hd rfl hr) k
theorem own_isub (X : Stand p l e R s m args below meth c T locs cells slots) (hx : p.tables.exec = Jvm.exec) {x y : Int32} (pc' : Nat) (hp : pc + 1 = pc') (hd : decode c.code pc = .ok (.isub, 1)) (z : Int32) (hz : x - y = z) (k : own_Go p e below Fe Q (T.setTop (mkF m pc' Ls (.int z :: st)))) : own_Go p e below Fe Q (T.setTop (mkF m pc Ls (.int y :: .int x :: st))) := by
  subst hp; subst hz
  exact own_st (fun _ hr => XS.isub X.here hx rfl hd rfl hr) k
theorem own_imul (X : Stand p l e R s m args below meth c T locs cells slots) (hx : p.tables.exec = Jvm.exec) {x y : Int32} (pc' : Nat) (hp : pc + 1 = pc') (hd : decode c.code pc = .ok (.imul, 1)) (z : Int32) (hz : x * y = z) (k : own_Go p e below Fe Q (T.setTop (mkF m pc' Ls (.int z :: st)))) : own_Go p e below Fe Q (T.setTop (mkF m pc Ls (.int y :: .int x :: st))) := by
  subst hp; subst hz
  exact own_st (fun _ hr => XS.imul X.here hx rfl hd rfl hr) k
theorem own_iand (X : Stand p l e R s m args below meth c T locs cells slots) (hx : p.tables.exec = Jvm.exec) {x y : Int32} (pc' : Nat) (hp : pc + 1 = pc') (hd : decode c.code pc = .ok (.iand, 1)) (z : Int32) (hz : x &&& y = z) (k : own_Go p e below Fe Q (T.setTop (mkF m pc' Ls (.int z :: st)))) : own_Go p e below Fe Q (T.setTop (mkF m pc Ls (.int y :: .int x :: st))) := by
  subst hp; subst hz
  exact own_st (fun _ hr => XS.iand X.here hx rfl hd rfl hr) k
theorem own_ior (X : Stand p l e R s m args below meth c T locs cells slots) (hx : p.tables.exec = Jvm.exec) {x y : Int32} (pc' : Nat) (hp : pc + 1 = pc') (hd : decode c.code pc = .ok (.ior, 1)) (z : Int32) (hz : x ||| y = z) (k : own_Go p e below Fe Q (T.setTop (mkF m pc' Ls (.int z :: st)))) : own_Go p e below Fe Q (T.setTop (mkF m pc Ls (.int y :: .int x :: st))) := by
  subst hp; subst hz
  exact own_st (fun _ hr => XS.ior X.here hx rfl hd rfl hr) k
theorem own_ixor (X : Stand p l e R s m args below meth c T locs cells slots) (hx : p.tables.exec = Jvm.exec) {x y : Int32} (pc' : Nat) (hp : pc + 1 = pc') (hd : decode c.code pc = .ok (.ixor, 1)) (z : Int32) (hz : x ^^^ y = z) (k : own_Go p e below Fe Q (T.setTop (mkF m pc' Ls (.int z :: st)))) : own_Go p e below Fe Q (T.setTop (mkF m pc Ls (.int y :: .int x :: st))) := by
  subst hp; subst hz
  exact own_st (fun _ hr => XS.ixor X.here hx rfl hd rfl hr) k
theorem own_ineg (X : Stand p l e R s m args below meth c T locs cells slots) (hx : p.tables.exec = Jvm.exec) {x : Int32} (pc' : Nat) (hp : pc + 1 = pc') (hd : decode c.code pc = .ok (.ineg, 1)) (z : Int32) (hz : -x = z) (k : own_Go p e below Fe Q (T.setTop (mkF m pc' Ls (.int z :: st)))) : own_Go p e below Fe Q (T.setTop (mkF m pc Ls (.int x :: st))) := by
  subst hp; subst hz
  exact own_st (fun _ hr => XS.ineg X.here hx rfl hd rfl hr) k
theorem own_idiv (X : Stand p l e R s m args below meth c T locs cells slots) (hx : p.tables.exec = Jvm.exec) {x y : Int32} (pc' : Nat) (hp : pc + 1 = pc') (hd : decode c.code pc = .ok (.idiv, 1)) (hy : y ≠ 0) (z : Int32) (hz : x / y = z) (k : own_Go p e below Fe Q (T.setTop (mkF m pc' Ls (.int z :: st)))) : own_Go p e below Fe Q (T.setTop (mkF m pc Ls (.int y :: .int x :: st))) := by
  subst hp; subst hz
  exact own_st (fun _ hr => XS.idiv X.here hx rfl hd rfl hy hr) k
theorem own_ladd (X : Stand p l e R s m args below meth c T locs cells slots) (hx : p.tables.exec = Jvm.exec) {x y : Int64} (pc' : Nat) (hp : pc + 1 = pc') (hd : decode c.code pc = .ok (.ladd, 1)) (z : Int64) (hz : x + y = z) (k : own_Go p e below Fe Q (T.setTop (mkF m pc' Ls (.long z :: st)))) : own_Go p e below Fe Q (T.setTop (mkF m pc Ls (.long y :: .long x :: st))) := by
  subst hp; subst hz
  exact own_st (fun _ hr => XS.ladd X.here hx rfl hd rfl hr) k
theorem own_lsub (X : Stand p l e R s m args below meth c T locs cells slots) (hx : p.tables.exec = Jvm.exec) {x y : Int64} (pc' : Nat) (hp : pc + 1 = pc') (hd : decode c.code pc = .ok (.lsub, 1)) (z : Int64) (hz : x - y = z) (k : own_Go p e below Fe Q (T.setTop (mkF m pc' Ls (.long z :: st)))) : own_Go p e below Fe Q (T.setTop (mkF m pc Ls (.long y :: .long x :: st))) := by
  subst hp; subst hz
  exact own_st (fun _ hr => XS.lsub X.here hx rfl hd rfl hr) k
theorem own_lmul (X : Stand p l e R s m args below meth c T locs cells slots) (hx : p.tables.exec = Jvm.exec) {x y : Int64} (pc' : Nat) (hp : pc + 1 = pc') (hd : decode c.code pc = .ok (.lmul, 1)) (z : Int64) (hz : x * y = z) (k : own_Go p e below Fe Q (T.setTop (mkF m pc' Ls (.long z :: st)))) : own_Go p e below Fe Q (T.setTop (mkF m pc Ls (.long y :: .long x :: st))) := by
  subst hp; subst hz
  exact own_st (fun _ hr => XS.lmul X.here hx rfl hd rfl hr) k
theorem own_land (X : Stand p l e R s m args below meth c T locs cells slots) (hx : p.tables.exec = Jvm.exec) {x y : Int64} (pc' : Nat) (hp : pc + 1 = pc') (hd : decode c.code pc = .ok (.land, 1)) (z : Int64) (hz : x &&& y = z) (k : own_Go p e below Fe Q (T.setTop (mkF m pc' Ls (.long z :: st)))) : own_Go p e below Fe Q (T.setTop (mkF m pc Ls (.long y :: .long x :: st))) := by
  subst hp; subst hz
  exact own_st (fun _ hr => XS.land X.here hx rfl hd rfl hr) k
theorem own_lor (X : Stand p l e R s m args below meth c T locs cells slots) (hx : p.tables.exec = Jvm.exec) {x y : Int64} (pc' : Nat) (hp : pc + 1 = pc') (hd : decode c.code pc = .ok (.lor, 1)) (z : Int64) (hz : x ||| y = z) (k : own_Go p e below Fe Q (T.setTop (mkF m pc' Ls (.long z :: st)))) : own_Go p e below Fe Q (T.setTop (mkF m pc Ls (.long y :: .long x :: st))) := by
  subst hp; subst hz
  exact own_st (fun _ hr => XS.lor X.here hx rfl hd rfl hr) k
theorem own_lxor (X : Stand p l e R s m args below meth c T locs cells slots) (hx : p.tables.exec = Jvm.exec) {x y : Int64} (pc' : Nat) (hp : pc + 1 = pc') (hd : decode c.code pc = .ok (.lxor, 1)) (z : Int64) (hz : x ^^^ y = z) (k : own_Go p e below Fe Q (T.setTop (mkF m pc' Ls (.long z :: st)))) : own_Go p e below Fe Q (T.setTop (mkF m pc Ls (.long y :: .long x :: st))) := by
  subst hp; subst hz
  exact own_st (fun _ hr => XS.lxor X.here hx rfl hd rfl hr) k
theorem own_lneg (X : Stand p l e R s m args below meth c T locs cells slots) (hx : p.tables.exec = Jvm.exec) {x : Int64} (pc' : Nat) (hp : pc + 1 = pc') (hd : decode c.code pc = .ok (.lneg, 1)) (z : Int64) (hz : -x = z) (k : own_Go p e below Fe Q (T.setTop (mkF m pc' Ls (.long z :: st)))) : own_Go p e below Fe Q (T.setTop (mkF m pc Ls (.long x :: st))) := by
  subst hp; subst hz
  exact own_st (fun _ hr => XS.lneg X.here hx rfl hd rfl hr) k
theorem own_ldiv (X : Stand p l e R s m args below meth c T locs cells slots) (hx : p.tables.exec = Jvm.exec) {x y : Int64} (pc' : Nat) (hp : pc + 1 = pc') (hd : decode c.code pc = .ok (.ldiv, 1)) (hy : y ≠ 0) (z : Int64) (hz : x / y = z) (k : own_Go p e below Fe Q (T.setTop (mkF m pc' Ls (.long z :: st)))) : own_Go p e below Fe Q (T.setTop (mkF m pc Ls (.long y :: .long x :: st))) := by
  subst hp; subst hz
  exact own_st (fun _ hr => XS.ldiv X.here hx rfl hd rfl hy hr) k
theorem own_irem (X : Stand p l e R s m args below meth c T locs cells slots) (hx : p.tables.exec = Jvm.exec) {x y : Int32} (pc' : Nat) (hp : pc + 1 = pc') (hd : decode c.code pc = .ok (.irem, 1)) (hy : y ≠ 0) (z : Int32) (hz : x % y = z) (k : own_Go p e below Fe Q (T.setTop (mkF m pc' Ls (.int z :: st)))) : own_Go p e below Fe Q (T.setTop (mkF m pc Ls (.int y :: .int x :: st))) := by
  subst hp; subst hz
  exact own_st (fun _ hr => iremM (g := mkF m pc Ls (.int y :: .int x :: st)) X hx rfl hd rfl hy hr) k
theorem own_lrem (X : Stand p l e R s m args below meth c T locs cells slots) (hx : p.tables.exec = Jvm.exec) {x y : Int64} (pc' : Nat) (hp : pc + 1 = pc') (hd : decode c.code pc = .ok (.lrem, 1)) (hy : y ≠ 0) (z : Int64) (hz : x % y = z) (k : own_Go p e below Fe Q (T.setTop (mkF m pc' Ls (.long z :: st)))) : own_Go p e below Fe Q (T.setTop (mkF m pc Ls (.long y :: .long x :: st))) := by
  subst hp; subst hz
  exact own_st (fun _ hr => XS.lrem X.here hx rfl hd rfl hy (by rw [lrem_mod]; exact hr)) k
theorem own_ishl (X : Stand p l e R s m args below meth c T locs cells slots) (hx : p.tables.exec = Jvm.exec) {x : Int32} {y : Int32} (pc' : Nat) (hp : pc + 1 = pc') (hd : decode c.code pc = .ok (.ishl, 1)) (z : Int32) (hz : x <<< (y &&& 31) = z) (k : own_Go p e below Fe Q (T.setTop (mkF m pc' Ls (.int z :: st)))) : own_Go p e below Fe Q (T.setTop (mkF m pc Ls (.int y :: .int x :: st))) := by
  subst hp; subst hz
  exact own_st (fun _ hr => XS.ishl X.here hx rfl hd rfl hr) k
theorem own_ishr (X : Stand p l e R s m args below meth c T locs cells slots) (hx : p.tables.exec = Jvm.exec) {x : Int32} {y : Int32} (pc' : Nat) (hp : pc + 1 = pc') (hd : decode c.code pc = .ok (.ishr, 1)) (z : Int32) (hz : x >>> (y &&& 31) = z) (k : own_Go p e below Fe Q (T.setTop (mkF m pc' Ls (.int z :: st)))) : own_Go p e below Fe Q (T.setTop (mkF m pc Ls (.int y :: .int x :: st))) := by
  subst hp; subst hz
  exact own_st (fun _ hr => XS.ishr X.here hx rfl hd rfl hr) k
theorem own_iushr (X : Stand p l e R s m args below meth c T locs cells slots) (hx : p.tables.exec = Jvm.exec) {x : Int32} {y : Int32} (pc' : Nat) (hp : pc + 1 = pc') (hd : decode c.code pc = .ok (.iushr, 1)) (z : Int32) (hz : (x.toUInt32 >>> (y &&& 31).toUInt32).toInt32 = z) (k : own_Go p e below Fe Q (T.setTop (mkF m pc' Ls (.int z :: st)))) : own_Go p e below Fe Q (T.setTop (mkF m pc Ls (.int y :: .int x :: st))) := by
  subst hp; subst hz
  exact own_st (fun _ hr => XS.iushr X.here hx rfl hd rfl hr) k
theorem own_lshl (X : Stand p l e R s m args below meth c T locs cells slots) (hx : p.tables.exec = Jvm.exec) {x : Int64} {y : Int32} (pc' : Nat) (hp : pc + 1 = pc') (hd : decode c.code pc = .ok (.lshl, 1)) (z : Int64) (hz : x <<< (y &&& 0x3f).toInt64 = z) (k : own_Go p e below Fe Q (T.setTop (mkF m pc' Ls (.long z :: st)))) : own_Go p e below Fe Q (T.setTop (mkF m pc Ls (.int y :: .long x :: st))) := by
  subst hp; subst hz
  exact own_st (fun _ hr => XS.lshl X.here hx rfl hd rfl hr) k
theorem own_lshr (X : Stand p l e R s m args below meth c T locs cells slots) (hx : p.tables.exec = Jvm.exec) {x : Int64} {y : Int32} (pc' : Nat) (hp : pc + 1 = pc') (hd : decode c.code pc = .ok (.lshr, 1)) (z : Int64) (hz : x >>> (y &&& 0x3f).toInt64 = z) (k : own_Go p e below Fe Q (T.setTop (mkF m pc' Ls (.long z :: st)))) : own_Go p e below Fe Q (T.setTop (mkF m pc Ls (.int y :: .long x :: st))) := by
  subst hp; subst hz
  exact own_st (fun _ hr => XS.lshr X.here hx rfl hd rfl hr) k
theorem own_lushr (X : Stand p l e R s m args below meth c T locs cells slots) (hx : p.tables.exec = Jvm.exec) {x : Int64} {y : Int32} (pc' : Nat) (hp : pc + 1 = pc') (hd : decode c.code pc = .ok (.lushr, 1)) (z : Int64) (hz : (x.toUInt64 >>> (y &&& 0x3f).toInt64.toUInt64).toInt64 = z) (k : own_Go p e below Fe Q (T.setTop (mkF m pc' Ls (.long z :: st)))) : own_Go p e below Fe Q (T.setTop (mkF m pc Ls (.int y :: .long x :: st))) := by
  subst hp; subst hz
  exact own_st (fun _ hr => XS.lushr X.here hx rfl hd rfl hr) k
theorem own_i2l (X : Stand p l e R s m args below meth c T locs cells slots) (hx : p.tables.exec = Jvm.exec) {x : Int32} (pc' : Nat) (hp : pc + 1 = pc') (hd : decode c.code pc = .ok (.i2l, 1)) (z : Int64) (hz : x.toInt64 = z) (k : own_Go p e below Fe Q (T.setTop (mkF m pc' Ls (.long z :: st)))) : own_Go p e below Fe Q (T.setTop (mkF m pc Ls (.int x :: st))) := by
  subst hp; subst hz
  exact own_st (fun _ hr => XS.i2l X.here hx rfl hd rfl hr) k
theorem own_l2i (X : Stand p l e R s m args below meth c T locs cells slots) (hx : p.tables.exec = Jvm.exec) {x : Int64} (pc' : Nat) (hp : pc + 1 = pc') (hd : decode c.code pc = .ok (.l2i, 1)) (z : Int32) (hz : x.toInt32 = z) (k : own_Go p e below Fe Q (T.setTop (mkF m pc' Ls (.int z :: st)))) : own_Go p e below Fe Q (T.setTop (mkF m pc Ls (.long x :: st))) := by
  subst hp; subst hz
  exact own_st (fun _ hr => XS.l2i X.here hx rfl hd rfl hr) k
theorem own_i2b (X : Stand p l e R s m args below meth c T locs cells slots) (hx : p.tables.exec = Jvm.exec) {x : Int32} (pc' : Nat) (hp : pc + 1 = pc') (hd : decode c.code pc = .ok (.i2b, 1)) (z : Int32) (hz : x.toInt8.toInt32 = z) (k : own_Go p e below Fe Q (T.setTop (mkF m pc' Ls (.int z :: st)))) : own_Go p e below Fe Q (T.setTop (mkF m pc Ls (.int x :: st))) := by
  subst hp; subst hz
  exact own_st (fun _ hr => XS.i2b X.here hx rfl hd rfl hr) k
theorem own_i2s (X : Stand p l e R s m args below meth c T locs cells slots) (hx : p.tables.exec = Jvm.exec) {x : Int32} (pc' : Nat) (hp : pc + 1 = pc') (hd : decode c.code pc = .ok (.i2s, 1)) (z : Int32) (hz : x.toInt16.toInt32 = z) (k : own_Go p e below Fe Q (T.setTop (mkF m pc' Ls (.int z :: st)))) : own_Go p e below Fe Q (T.setTop (mkF m pc Ls (.int x :: st))) := by
  subst hp; subst hz
  exact own_st (fun _ hr => XS.i2s X.here hx rfl hd rfl hr) k
theorem own_i2c (X : Stand p l e R s m args below meth c T locs cells slots) (hx : p.tables.exec = Jvm.exec) {x : Int32} (pc' : Nat) (hp : pc + 1 = pc') (hd : decode c.code pc = .ok (.i2c, 1)) (z : Int32) (hz : x.toUInt32.toUInt16.toUInt32.toInt32 = z) (k : own_Go p e below Fe Q (T.setTop (mkF m pc' Ls (.int z :: st)))) : own_Go p e below Fe Q (T.setTop (mkF m pc Ls (.int x :: st))) := by
  subst hp; subst hz
  exact own_st (fun _ hr => XS.i2c X.here hx rfl hd rfl hr) k
theorem own_lcmp (X : Stand p l e R s m args below meth c T locs cells slots) (hx : p.tables.exec = Jvm.exec) {x y : Int64} (pc' : Nat) (hp : pc + 1 = pc') (hd : decode c.code pc = .ok (.lcmp, 1)) (z : Int32) (hz : lcmpW x y = z) (k : own_Go p e below Fe Q (T.setTop (mkF m pc' Ls (.int z :: st)))) : own_Go p e below Fe Q (T.setTop (mkF m pc Ls (.long y :: .long x :: st))) := by
  subst hp; subst hz
  exact own_st (fun _ hr => XS.lcmp X.here hx rfl hd rfl hr) k
theorem own_i2d (X : Stand p l e R s m args below meth c T locs cells slots) (hx : p.tables.exec = Jvm.exec) {x : Int32} (pc' : Nat) (hp : pc + 1 = pc') (hd : decode c.code pc = .ok (.i2d, 1)) (z : UInt64) (hz : FP.i2d x = z) (k : own_Go p e below Fe Q (T.setTop (mkF m pc' Ls (.double z :: st)))) : own_Go p e below Fe Q (T.setTop (mkF m pc Ls (.int x :: st))) := by
  subst hp
  exact own_st (fun _ hr => XS.i2dS X.here hx rfl hd rfl hz hr) k
theorem own_l2d (X : Stand p l e R s m args below meth c T locs cells slots) (hx : p.tables.exec = Jvm.exec) {x : Int64} (pc' : Nat) (hp : pc + 1 = pc') (hd : decode c.code pc = .ok (.l2d, 1)) (z : UInt64) (hz : FP.l2d x = z) (k : own_Go p e below Fe Q (T.setTop (mkF m pc' Ls (.double z :: st)))) : own_Go p e below Fe Q (T.setTop (mkF m pc Ls (.long x :: st))) := by
  subst hp
  exact own_st (fun _ hr => XS.l2dS X.here hx rfl hd rfl hz hr) k
theorem own_d2i (X : Stand p l e R s m args below meth c T locs cells slots) (hx : p.tables.exec = Jvm.exec) {x : UInt64} (pc' : Nat) (hp : pc + 1 = pc') (hd : decode c.code pc = .ok (.d2i, 1)) (z : Int32) (hz : FP.d2i x = z) (k : own_Go p e below Fe Q (T.setTop (mkF m pc' Ls (.int z :: st)))) : own_Go p e below Fe Q (T.setTop (mkF m pc Ls (.double x :: st))) := by
  subst hp
  exact own_st (fun _ hr => XS.d2iS X.here hx rfl hd rfl hz hr) k
theorem own_d2l (X : Stand p l e R s m args below meth c T locs cells slots) (hx : p.tables.exec = Jvm.exec) {x : UInt64} (pc' : Nat) (hp : pc + 1 = pc') (hd : decode c.code pc = .ok (.d2l, 1)) (z : Int64) (hz : FP.d2l x = z) (k : own_Go p e below Fe Q (T.setTop (mkF m pc' Ls (.long z :: st)))) : own_Go p e below Fe Q (T.setTop (mkF m pc Ls (.double x :: st))) := by
  subst hp
  exact own_st (fun _ hr => XS.d2lS X.here hx rfl hd rfl hz hr) k
theorem own_dneg (X : Stand p l e R s m args below meth c T locs cells slots) (hx : p.tables.exec = Jvm.exec) {x : UInt64} (pc' : Nat) (hp : pc + 1 = pc') (hd : decode c.code pc = .ok (.dneg, 1)) (z : UInt64) (hz : FP.dneg x = z) (k : own_Go p e below Fe Q (T.setTop (mkF m pc' Ls (.double z :: st)))) : own_Go p e below Fe Q (T.setTop (mkF m pc Ls (.double x :: st))) := by
  subst hp
  exact own_st (fun _ hr => XS.dnegS X.here hx rfl hd rfl hz hr) k
theorem own_dadd (X : Stand p l e R s m args below meth c T locs cells slots) (hx : p.tables.exec = Jvm.exec) {x y : UInt64} (pc' : Nat) (hp : pc + 1 = pc') (hd : decode c.code pc = .ok (.dadd, 1)) (hn : NoNaN64 (FP.dadd x y)) (z : UInt64) (hz : FP.dadd x y = z) (k : own_Go p e below Fe Q (T.setTop (mkF m pc' Ls (.double z :: st)))) : own_Go p e below Fe Q (T.setTop (mkF m pc Ls (.double y :: .double x :: st))) := by
  subst hp
  exact own_st (fun _ hr => XS.daddS X.here hx rfl hd rfl hn hz hr) k
theorem own_dsub (X : Stand p l e R s m args below meth c T locs cells slots) (hx : p.tables.exec = Jvm.exec) {x y : UInt64} (pc' : Nat) (hp : pc + 1 = pc') (hd : decode c.code pc = .ok (.dsub, 1)) (hn : NoNaN64 (FP.dsub x y)) (z : UInt64) (hz : FP.dsub x y = z) (k : own_Go p e below Fe Q (T.setTop (mkF m pc' Ls (.double z :: st)))) : own_Go p e below Fe Q (T.setTop (mkF m pc Ls (.double y :: .double x :: st))) := by
  subst hp
  exact own_st (fun _ hr => XS.dsubS X.here hx rfl hd rfl hn hz hr) k
theorem own_dmul (X : Stand p l e R s m args below meth c T locs cells slots) (hx : p.tables.exec = Jvm.exec) {x y : UInt64} (pc' : Nat) (hp : pc + 1 = pc') (hd : decode c.code pc = .ok (.dmul, 1)) (hn : NoNaN64 (FP.dmul x y)) (z : UInt64) (hz : FP.dmul x y = z) (k : own_Go p e below Fe Q (T.setTop (mkF m pc' Ls (.double z :: st)))) : own_Go p e below Fe Q (T.setTop (mkF m pc Ls (.double y :: .double x :: st))) := by
  subst hp
  exact own_st (fun _ hr => XS.dmulS X.here hx rfl hd rfl hn hz hr) k
theorem own_ddiv (X : Stand p l e R s m args below meth c T locs cells slots) (hx : p.tables.exec = Jvm.exec) {x y : UInt64} (pc' : Nat) (hp : pc + 1 = pc') (hd : decode c.code pc = .ok (.ddiv, 1)) (hn : NoNaN64 (FP.ddiv x y)) (z : UInt64) (hz : FP.ddiv x y = z) (k : own_Go p e below Fe Q (T.setTop (mkF m pc' Ls (.double z :: st)))) : own_Go p e below Fe Q (T.setTop (mkF m pc Ls (.double y :: .double x :: st))) := by
  subst hp
  exact own_st (fun _ hr => XS.ddivS X.here hx rfl hd rfl hn hz hr) k
theorem own_dcmp (X : Stand p l e R s m args below meth c T locs cells slots) (hx : p.tables.exec = Jvm.exec) {o : CmpOp} {x y : UInt64} (pc' : Nat) (hp : pc + 1 = pc') (hd : decode c.code pc = .ok (.dcmp o, 1)) (z : Int32) (hz : cmpValue (FP.dcmp x y) o = z) (k : own_Go p e below Fe Q (T.setTop (mkF m pc' Ls (.int z :: st)))) : own_Go p e below Fe Q (T.setTop (mkF m pc Ls (.double y :: .double x :: st))) := by
  subst hp
  exact own_st (fun _ hr => XS.dcmpS X.here hx rfl hd rfl hz hr) k
theorem own_iinc (X : Stand p l e R s m args below meth c T locs cells slots) (hx : p.tables.exec = Jvm.exec) {i : Nat} {cst : Int} {x : Int32} (pc' : Nat) (hp : pc + 3 = pc') (hd : decode c.code pc = .ok (.iinc i cst, 3)) (hl : Ls[i]? = some (.val (.int x))) (Ls' : Array Slot) (hl' : storeLocals Ls i (.int (x + Int32.ofInt cst)) = some Ls') (k : own_Go p e below Fe Q (T.setTop (mkF m pc' Ls' (st)))) : own_Go p e below Fe Q (T.setTop (mkF m pc Ls (st))) := by
  subst hp
  exact own_st (fun _ hr => XS.iinc X.here hx rfl hd hl hl' hr) k
theorem own_dup (X : Stand p l e R s m args below meth c T locs cells slots) (hx : p.tables.exec = Jvm.exec) {x : Value} (pc' : Nat) (hp : pc + 1 = pc') (hd : decode c.code pc = .ok (.dup, 1)) (hc : x.category = 1) (k : own_Go p e below Fe Q (T.setTop (mkF m pc' Ls (x :: x :: st)))) : own_Go p e below Fe Q (T.setTop (mkF m pc Ls (x :: st))) := by
  subst hp
  exact own_st (fun _ hr => XS.dup X.here hx rfl hd rfl hc hr) k
theorem own_dupX1 (X : Stand p l e R s m args below meth c T locs cells slots) (hx : p.tables.exec = Jvm.exec) {x y : Value} (pc' : Nat) (hp : pc + 1 = pc') (hd : decode c.code pc = .ok (.dup_x1, 1)) (hc : x.category = 1) (hc' : y.category = 1) (k : own_Go p e below Fe Q (T.setTop (mkF m pc' Ls (x :: y :: x :: st)))) : own_Go p e below Fe Q (T.setTop (mkF m pc Ls (x :: y :: st))) := by
  subst hp
  exact own_st (fun _ hr => XS.dupX1 X.here hx rfl hd rfl hc hc' hr) k
theorem own_pop (X : Stand p l e R s m args below meth c T locs cells slots) (hx : p.tables.exec = Jvm.exec) {x : Value} (pc' : Nat) (hp : pc + 1 = pc') (hd : decode c.code pc = .ok (.pop, 1)) (hc : x.category = 1) (k : own_Go p e below Fe Q (T.setTop (mkF m pc' Ls (st)))) : own_Go p e below Fe Q (T.setTop (mkF m pc Ls (x :: st))) := by
  subst hp
  exact own_st (fun _ hr => XS.pop X.here hx rfl hd rfl hc hr) k
theorem own_goto (X : Stand p l e R s m args below meth c T locs cells slots) (hx : p.tables.exec = Jvm.exec)  {o : Int} (pc' : Nat) (hd : decode c.code pc = .ok (.goto o, 3))  (ho : 0 ≤ (pc : Int) + o) (hp : ((pc : Int) + o).toNat = pc') (k : own_Go p e below Fe Q (T.setTop (mkF m pc' Ls (st)))) : own_Go p e below Fe Q (T.setTop (mkF m pc Ls (st))) :=
  own_st (fun _ hr => XS.goto X.here hx rfl rfl hd ho hp hr) k
theorem own_ifYes (X : Stand p l e R s m args below meth c T locs cells slots) (hx : p.tables.exec = Jvm.exec) {cd : ClassFile.Cond} {x : Int32} {o : Int} (pc' : Nat) (hd : decode c.code pc = .ok (.ifCond cd o, 3)) (hc : ifCond.holds cd x = true) (ho : 0 ≤ (pc : Int) + o) (hp : ((pc : Int) + o).toNat = pc') (k : own_Go p e below Fe Q (T.setTop (mkF m pc' Ls (st)))) : own_Go p e below Fe Q (T.setTop (mkF m pc Ls (.int x :: st))) :=
  own_st (fun _ hr => XS.ifYes X.here hx rfl rfl hd rfl hc ho hp hr) k
theorem own_icmpYes (X : Stand p l e R s m args below meth c T locs cells slots) (hx : p.tables.exec = Jvm.exec) {cd : ClassFile.Cond} {x y : Int32} {o : Int} (pc' : Nat) (hd : decode c.code pc = .ok (.if_icmp cd o, 3)) (hc : if_icmp.holds cd x y = true) (ho : 0 ≤ (pc : Int) + o) (hp : ((pc : Int) + o).toNat = pc') (k : own_Go p e below Fe Q (T.setTop (mkF m pc' Ls (st)))) : own_Go p e below Fe Q (T.setTop (mkF m pc Ls (.int y :: .int x :: st))) :=
  own_st (fun _ hr => XS.icmpYes X.here hx rfl rfl hd rfl hc ho hp hr) k
theorem own_ifnullYes (X : Stand p l e R s m args below meth c T locs cells slots) (hx : p.tables.exec = Jvm.exec)  {o : Int} (pc' : Nat) (hd : decode c.code pc = .ok (.ifnull o, 3))  (ho : 0 ≤ (pc : Int) + o) (hp : ((pc : Int) + o).toNat = pc') (k : own_Go p e below Fe Q (T.setTop (mkF m pc' Ls (st)))) : own_Go p e below Fe Q (T.setTop (mkF m pc Ls (.null :: st))) :=
  own_st (fun _ hr => XS.ifnullYes X.here hx rfl rfl hd rfl ho hp hr) k
theorem own_ifnonnullYes (X : Stand p l e R s m args below meth c T locs cells slots) (hx : p.tables.exec = Jvm.exec) {b : Addr} {o : Int} (pc' : Nat) (hd : decode c.code pc = .ok (.ifnonnull o, 3))  (ho : 0 ≤ (pc : Int) + o) (hp : ((pc : Int) + o).toNat = pc') (k : own_Go p e below Fe Q (T.setTop (mkF m pc' Ls (st)))) : own_Go p e below Fe Q (T.setTop (mkF m pc Ls (.ref b :: st))) :=
  own_st (fun _ hr => XS.ifnonnullYes X.here hx rfl rfl hd rfl ho hp hr) k
theorem own_ifNo (X : Stand p l e R s m args below meth c T locs cells slots) (hx : p.tables.exec = Jvm.exec) {cd : ClassFile.Cond} {o : Int} {x : Int32} (pc' : Nat) (hp : pc + 3 = pc') (hd : decode c.code pc = .ok (.ifCond cd o, 3)) (hc : ifCond.holds cd x = false) (k : own_Go p e below Fe Q (T.setTop (mkF m pc' Ls (st)))) : own_Go p e below Fe Q (T.setTop (mkF m pc Ls (.int x :: st))) := by
  subst hp
  exact own_st (fun _ hr => XS.ifNo X.here hx rfl hd rfl hc hr) k
theorem own_icmpNo (X : Stand p l e R s m args below meth c T locs cells slots) (hx : p.tables.exec = Jvm.exec) {cd : ClassFile.Cond} {o : Int} {x y : Int32} (pc' : Nat) (hp : pc + 3 = pc') (hd : decode c.code pc = .ok (.if_icmp cd o, 3)) (hc : if_icmp.holds cd x y = false) (k : own_Go p e below Fe Q (T.setTop (mkF m pc' Ls (st)))) : own_Go p e below Fe Q (T.setTop (mkF m pc Ls (.int y :: .int x :: st))) := by
  subst hp
  exact own_st (fun _ hr => XS.icmpNo X.here hx rfl hd rfl hc hr) k
theorem own_ifnullNo (X : Stand p l e R s m args below meth c T locs cells slots) (hx : p.tables.exec = Jvm.exec) {o : Int} {b : Addr} (pc' : Nat) (hp : pc + 3 = pc') (hd : decode c.code pc = .ok (.ifnull o, 3))  (k : own_Go p e below Fe Q (T.setTop (mkF m pc' Ls (st)))) : own_Go p e below Fe Q (T.setTop (mkF m pc Ls (.ref b :: st))) := by
  subst hp
  exact own_st (fun _ hr => XS.ifnullNo X.here hx rfl hd rfl hr) k
theorem own_ifnonnullNo (X : Stand p l e R s m args below meth c T locs cells slots) (hx : p.tables.exec = Jvm.exec) {o : Int} (pc' : Nat) (hp : pc + 3 = pc') (hd : decode c.code pc = .ok (.ifnonnull o, 3))  (k : own_Go p e below Fe Q (T.setTop (mkF m pc' Ls (st)))) : own_Go p e below Fe Q (T.setTop (mkF m pc Ls (.null :: st))) := by
  subst hp
  exact own_st (fun _ hr => XS.ifnonnullNo X.here hx rfl hd rfl hr) k
theorem own_acmp (X : Stand p l e R s m args below meth c T locs cells slots) (hx : p.tables.exec = Jvm.exec) {cd : ACond} {x y : Value} {o : Int} (same : Bool) (pc' : Nat) (hd : decode c.code pc = .ok (.if_acmp cd o, 3)) (h1 : x.isRef = true) (h2 : y.isRef = true) (hq : decide (x = y) = same) (ho : 0 ≤ (pc : Int) + o) (hp : pc' = if acV cd same = true then ((pc : Int) + o).toNat else pc + 3) (k : own_Go p e below Fe Q (T.setTop (mkF m pc' Ls st))) : own_Go p e below Fe Q (T.setTop (mkF m pc Ls (y :: x :: st))) :=
  own_st (fun _ hr => Jvm.RoadKit.acmp (g := mkF m pc Ls (y :: x :: st)) X hx rfl h1 h2 (pc0 := pc) (pc' := pc') (same := same) rfl hd rfl hq ho hp hr) k
theorem own_tsw (X : Stand p l e R s m args below meth c T locs cells slots) (hx : p.tables.exec = Jvm.exec) {dflt low high : Int} {offs : Array Int} {len : Nat} {i : Int32} {o : Int} (pc' : Nat) (hd : decode c.code pc = .ok (.tableswitch dflt low high offs, len)) (hin : ¬ (i.toInt < low ∨ i.toInt > high)) (hoff : offs[(i.toInt - low).toNat]? = some o) (ho : 0 ≤ (pc : Int) + o) (hp : ((pc : Int) + o).toNat = pc') (k : own_Go p e below Fe Q (T.setTop (mkF m pc' Ls st))) : own_Go p e below Fe Q (T.setTop (mkF m pc Ls (.int i :: st))) :=
  own_st (fun _ hr => XS.tswIn X.here hx rfl rfl hd rfl hin hoff ho hp hr) k
theorem own_ldcI (X : Stand p l e R s m args below meth c T locs cells slots) (hx : p.tables.exec = Jvm.exec) (hZ : Z.Warmed39 s.vm) {own : String} {index : Nat} (hown : s.vm.findClass own = some m.cls) {z : Int32} (w : (Jvm.Cond.constant own index z).before a0 Z = true) (pc' : Nat) (hp : pc + 2 = pc') (hd : decode c.code pc = .ok (.ldc index, 2)) (k : own_Go p e below Fe Q (T.setTop (mkF m pc' Ls (.int z :: st)))) : own_Go p e below Fe Q (T.setTop (mkF m pc Ls st)) := by
  subst hp
  exact own_st (X.ldcInt hx hown (mvT hZ w) (g := mkF m pc Ls st) rfl hd) k
theorem own_ldcWI (X : Stand p l e R s m args below meth c T locs cells slots) (hx : p.tables.exec = Jvm.exec) (hZ : Z.Warmed39 s.vm) {own : String} {index : Nat} (hown : s.vm.findClass own = some m.cls) {z : Int32} (w : (Jvm.Cond.constant own index z).before a0 Z = true) (pc' : Nat) (hp : pc + 3 = pc') (hd : decode c.code pc = .ok (.ldc_w index, 3)) (k : own_Go p e below Fe Q (T.setTop (mkF m pc' Ls (.int z :: st)))) : own_Go p e below Fe Q (T.setTop (mkF m pc Ls st)) := by
  subst hp
  exact own_st (X.ldcwInt hx hown (mvT hZ w) (g := mkF m pc Ls st) rfl hd) k
theorem own_ldcJ (X : Stand p l e R s m args below meth c T locs cells slots) (hx : p.tables.exec = Jvm.exec) (hZ : Z.Warmed39 s.vm) {own : String} {index : Nat} (hown : s.vm.findClass own = some m.cls) {z : Int64} (w : (Jvm.Cond.constantLong own index z).before a0 Z = true) (pc' : Nat) (hp : pc + 3 = pc') (hd : decode c.code pc = .ok (.ldc2_w index, 3)) (k : own_Go p e below Fe Q (T.setTop (mkF m pc' Ls (.long z :: st)))) : own_Go p e below Fe Q (T.setTop (mkF m pc Ls st)) := by
  subst hp
  exact own_st (X.ldc2Long hx hown (mvT hZ w) (g := mkF m pc Ls st) rfl hd) k
theorem own_ldcD (X : Stand p l e R s m args below meth c T locs cells slots) (hx : p.tables.exec = Jvm.exec) (hZ : Z.Warmed39 s.vm) {own : String} {index : Nat} (hown : s.vm.findClass own = some m.cls) {z : UInt64} (w : (Jvm.Cond.constantDouble own index z).before a0 Z = true) (pc' : Nat) (hp : pc + 3 = pc') (hd : decode c.code pc = .ok (.ldc2_w index, 3)) (k : own_Go p e below Fe Q (T.setTop (mkF m pc' Ls (.double z :: st)))) : own_Go p e below Fe Q (T.setTop (mkF m pc Ls st)) := by
  subst hp
  exact own_st (X.ldc2DoubleC hx hown (mvT hZ w) (g := mkF m pc Ls st) rfl hd) k
theorem own_getS (X : Stand p l e R s m args below meth c T locs cells slots) (hx : p.tables.exec = Jvm.exec) (hZ : Z.Warmed39 s.vm) {own R0 O n d host : String} {index : Nat} (hown : s.vm.findClass own = some m.cls) (w : (Jvm.Cond.fieldLink own index R0 n d).before a0 Z = true ∨ (Jvm.Cond.fieldLinkNest own index R0 n d host).before a0 Z = true) (via : Via Z R0 O n d) (eT : T.heap = h) {v : Value} (F : Sta Z h O n d v) (pc' : Nat) (hp : pc + 3 = pc') (hd : decode c.code pc = .ok (.getstatic index, 3))
    (k : ∀ T', Stand p l e R s m args below meth c T' locs cells slots → T'.heap = h → own_Go p e below Fe Q (T'.setTop (mkF m pc' Ls (v :: st)))) : own_Go p e below Fe Q (T.setTop (mkF m pc Ls st)) := by
  subst hp
  obtain ⟨T', X', e', st'⟩ := getS2 X hx hZ hown w via eT F (g := mkF m pc Ls st) rfl hd
  exact own_st st' (k T' X' e')
theorem own_getF (X : Stand p l e R s m args below meth c T locs cells slots) (hx : p.tables.exec = Jvm.exec) (hZ : Z.Warmed39 s.vm) {own R0 O n d host : String} {index : Nat} (hown : s.vm.findClass own = some m.cls) (w : (Jvm.Cond.fieldLink own index R0 n d).before a0 Z = true ∨ (Jvm.Cond.fieldLinkNest own index R0 n d host).before a0 Z = true) (via : Via Z R0 O n d) (eT : T.heap = h) {a : Addr} {v : Value} (F : Fld Z h a O n d v) (pc' : Nat) (hp : pc + 3 = pc') (hd : decode c.code pc = .ok (.getfield index, 3))
    (k : ∀ T', Stand p l e R s m args below meth c T' locs cells slots → T'.heap = h → own_Go p e below Fe Q (T'.setTop (mkF m pc' Ls (v :: st)))) : own_Go p e below Fe Q (T.setTop (mkF m pc Ls (.ref a :: st))) := by
  subst hp
  obtain ⟨T', X', e', st'⟩ := getF X hx hZ hown w via eT F (g := mkF m pc Ls (.ref a :: st)) rfl rfl hd
  exact own_st st' (k T' X' e')
theorem own_putF (X : Stand p l e R s m args below meth c T locs cells slots) (hx : p.tables.exec = Jvm.exec) (hZ : Z.Warmed39 s.vm) {own R0 O n d host C : String} {index kk : Nat} {ty : FieldType} (hown : s.vm.findClass own = some m.cls) (w : (Jvm.Cond.fieldLink own index R0 n d).before a0 Z = true ∨ (Jvm.Cond.fieldLinkNest own index R0 n d host).before a0 Z = true) (via : Via Z R0 O n d) (eT : T.heap = h) {a : Addr} {v old : Value} (F : Fld Z h a O n d old) (E : Exa Z h a C)
    (L : (Jvm.Cond.lays C O n d).before a0 Z = true ∨ ((Jvm.Cond.laysFinal C O n d).before a0 Z = true ∧ own = O ∧ meth.name = "<init>")) (wi : (Jvm.Cond.instantiable C kk).before a0 Z = true) (hty : parseFieldDescriptor d = some ty) (hn : narrow ty v = v) (hf : Jvm.fits ty v = true) (pc' : Nat) (hp : pc + 3 = pc') (hd : decode c.code pc = .ok (.putfield index, 3))
    (k : ∀ T' h', Stand p l e R s m args below meth c T' (locs ++ [⟨a, Jvm.RoadKit.slotOf Z O n d⟩]) cells slots → T'.heap = h' → Wr h h' a (Jvm.RoadKit.slotOf Z O n d) v → own_Go p e below Fe Q (T'.setTop (mkF m pc' Ls st))) : own_Go p e below Fe Q (T.setTop (mkF m pc Ls (v :: .ref a :: st))) := by
  subst hp
  obtain ⟨T', h', X', e', W', st'⟩ := putF X hx hZ hown w via eT F E L wi hty hn hf (g := mkF m pc Ls (v :: .ref a :: st)) rfl rfl hd
  exact own_st st' (k T' h' X' e' W')
theorem own_putFN (X : Stand p l e R s m args below meth c T locs cells slots) (hx : p.tables.exec = Jvm.exec) (hZ : Z.Warmed39 s.vm) {own R0 O n d C : String} {index kk : Nat} {ty : FieldType} (hown : s.vm.findClass own = some m.cls) (w : (Jvm.Cond.fieldLink own index R0 n d).before a0 Z = true) (via : Via Z R0 O n d) (eT : T.heap = h) {a : Addr} {v v' old : Value} (F : Fld Z h a O n d old) (E : Exa Z h a C)
    (L : (Jvm.Cond.lays C O n d).before a0 Z = true ∨ ((Jvm.Cond.laysFinal C O n d).before a0 Z = true ∧ own = O ∧ meth.name = "<init>")) (wi : (Jvm.Cond.instantiable C kk).before a0 Z = true) (hty : parseFieldDescriptor d = some ty) (hn : narrow ty v = v') (hf : Jvm.fits ty v' = true) (pc' : Nat) (hp : pc + 3 = pc') (hd : decode c.code pc = .ok (.putfield index, 3))
    (k : ∀ T' h', Stand p l e R s m args below meth c T' (locs ++ [⟨a, Jvm.RoadKit.slotOf Z O n d⟩]) cells slots → T'.heap = h' → Wr h h' a (Jvm.RoadKit.slotOf Z O n d) v' → own_Go p e below Fe Q (T'.setTop (mkF m pc' Ls st))) : own_Go p e below Fe Q (T.setTop (mkF m pc Ls (v :: .ref a :: st))) := by
  subst hp
  obtain ⟨T', h', X', e', W', st'⟩ := putFN X hx hZ hown w via eT F E L wi hty hn hf (g := mkF m pc Ls (v :: .ref a :: st)) rfl rfl hd
  exact own_st st' (k T' h' X' e' W')
theorem own_new (X : Stand p l e R s m args below meth c T locs cells slots) (hx : p.tables.exec = Jvm.exec) (hZ : Z.Warmed39 s.vm) {own C : String} {index n : Nat} (hown : s.vm.findClass own = some m.cls) (w : (Jvm.Cond.classLink own index C).before a0 Z = true) (wi : (Jvm.Cond.instantiable C n).before a0 Z = true) (wz : (Jvm.Cond.initialized C).before a0 Z = true) (eT : T.heap = h) (pc' : Nat) (hp : pc + 3 = pc') (hd : decode c.code pc = .ok (.new index, 3)) (hc : cells + 1 ≤ R.cells) (hl : slots + n ≤ R.slots)
    (k : ∀ T' h' b, b = h.size → Stand p l e R s m args below meth c T' locs (cells + 1) (slots + n) → T'.heap = h' → Ext h h' → Exa Z h' b C → (∀ {O nm d : String} {ty : FieldType}, Laid Z a0 C O nm d → parseFieldDescriptor d = some ty → Fld Z h' b O nm d (defaultValue ty)) → own_Go p e below Fe Q (T'.setTop (mkF m pc' Ls (.ref b :: st)))) : own_Go p e below Fe Q (T.setTop (mkF m pc Ls st)) := by
  subst hp
  obtain ⟨T', h', X', e', E', A', D', -, st'⟩ := newO X hx hZ hown w wi wz eT (g := mkF m pc Ls st) rfl hd hc hl
  exact own_st st' (k T' h' _ rfl X' e' E' A' D')
theorem own_newA (X : Stand p l e R s m args below meth c T locs cells slots) (hx : p.tables.exec = Jvm.exec) (hZ : Z.Warmed39 s.vm) {aty : ArrayType} (w : (Jvm.Cond.arrayClass (newarray.typeOf aty)).before a0 Z = true) (eT : T.heap = h) {n : Int32} (pc' : Nat) (hp : pc + 2 = pc') (hd : decode c.code pc = .ok (.newarray aty, 2)) (hn : ¬ n < 0) (cap : Nat) (hcap : n.toNatClampNeg ≤ cap) (hb : cap * 8 ≤ 536870912) (hc : cells + 1 ≤ R.cells) (hl : slots + cap ≤ R.slots) (ad : String) (had : "[" ++ (newarray.typeOf aty).toString = ad)
    (k : ∀ T' h' cA b, b = h.size → Stand p l e R s m args below meth c T' locs (cells + 1) (slots + cap) → T'.heap = h' → Ext h h' → Arr Z h' b (newA cA (newarray.typeOf aty) n) (newarray.typeOf aty) → Exa Z h' b ad → own_Go p e below Fe Q (T'.setTop (mkF m pc' Ls (.ref b :: st)))) : own_Go p e below Fe Q (T.setTop (mkF m pc Ls (.int n :: st))) := by
  subst hp
  obtain ⟨T', h', cA, X', e', E', A', C', st'⟩ := newPE X hx hZ w eT (g := mkF m pc Ls (.int n :: st)) rfl hd rfl hn hcap hb hc hl had
  exact own_st st' (k T' h' cA _ rfl X' e' E' A' C')
theorem own_stI (X : Stand p l e R s m args below meth c T locs cells slots) (hx : p.tables.exec = Jvm.exec) (hZ : Z.Warmed39 s.vm) (eT : T.heap = h) {a : Addr} {kA : ClassId} {n : Int32} {vs : List Value} {dv : Value} (F : Arv Z h a kA .int n vs dv) {j : Int32} {x : Int32} (hj : ¬ j < 0 ∧ j < n) (i : Nat) (hi : j.toNatClampNeg = i) (hl : i < vs.length) (vs' : List Value) (hvs : vs.set i (.int x) = vs') (pc' : Nat) (hp : pc + 1 = pc') (hd : decode c.code pc = .ok (.iastore, 1))
    (k : ∀ T' h', Stand p l e R s m args below meth c T' (locs ++ [⟨a, j.toNatClampNeg⟩]) cells slots → T'.heap = h' → Wr h h' a j.toNatClampNeg (.int x) → Arv Z h' a kA .int n vs' dv → own_Go p e below Fe Q (T'.setTop (mkF m pc' Ls st))) : own_Go p e below Fe Q (T.setTop (mkF m pc Ls (.int x :: .int j :: .ref a :: st))) := by
  subst hp; subst hvs
  obtain ⟨cl, Ar, q, S, N1, H, G⟩ := F
  have hin := inb_of S hj
  obtain ⟨T', h', X', e', W', st'⟩ := stI X hx hZ eT Ar (j := j) hin (g := mkF m pc Ls (.int x :: .int j :: .ref a :: st)) rfl rfl hd
  exact own_st st' (k T' h' X' e' W' (Arv.set Ar q S N1 H G rfl W' i hi hl))
theorem own_stJ (X : Stand p l e R s m args below meth c T locs cells slots) (hx : p.tables.exec = Jvm.exec) (hZ : Z.Warmed39 s.vm) (eT : T.heap = h) {a : Addr} {kA : ClassId} {n : Int32} {vs : List Value} {dv : Value} (F : Arv Z h a kA .long n vs dv) {j : Int32} {x : Int64} (hj : ¬ j < 0 ∧ j < n) (i : Nat) (hi : j.toNatClampNeg = i) (hl : i < vs.length) (vs' : List Value) (hvs : vs.set i (.long x) = vs') (pc' : Nat) (hp : pc + 1 = pc') (hd : decode c.code pc = .ok (.lastore, 1))
    (k : ∀ T' h', Stand p l e R s m args below meth c T' (locs ++ [⟨a, j.toNatClampNeg⟩]) cells slots → T'.heap = h' → Wr h h' a j.toNatClampNeg (.long x) → Arv Z h' a kA .long n vs' dv → own_Go p e below Fe Q (T'.setTop (mkF m pc' Ls st))) : own_Go p e below Fe Q (T.setTop (mkF m pc Ls (.long x :: .int j :: .ref a :: st))) := by
  subst hp; subst hvs
  obtain ⟨cl, Ar, q, S, N1, H, G⟩ := F
  have hin := inb_of S hj
  obtain ⟨T', h', X', e', W', st'⟩ := stJ X hx hZ eT Ar (j := j) hin (g := mkF m pc Ls (.long x :: .int j :: .ref a :: st)) rfl rfl hd
  exact own_st st' (k T' h' X' e' W' (Arv.set Ar q S N1 H G rfl W' i hi hl))
theorem own_stD (X : Stand p l e R s m args below meth c T locs cells slots) (hx : p.tables.exec = Jvm.exec) (hZ : Z.Warmed39 s.vm) (eT : T.heap = h) {a : Addr} {kA : ClassId} {n : Int32} {vs : List Value} {dv : Value} (F : Arv Z h a kA .double n vs dv) {j : Int32} {x : UInt64} (hj : ¬ j < 0 ∧ j < n) (i : Nat) (hi : j.toNatClampNeg = i) (hl : i < vs.length) (vs' : List Value) (hvs : vs.set i (.double x) = vs') (pc' : Nat) (hp : pc + 1 = pc') (hd : decode c.code pc = .ok (.dastore, 1))
    (k : ∀ T' h', Stand p l e R s m args below meth c T' (locs ++ [⟨a, j.toNatClampNeg⟩]) cells slots → T'.heap = h' → Wr h h' a j.toNatClampNeg (.double x) → Arv Z h' a kA .double n vs' dv → own_Go p e below Fe Q (T'.setTop (mkF m pc' Ls st))) : own_Go p e below Fe Q (T.setTop (mkF m pc Ls (.double x :: .int j :: .ref a :: st))) := by
  subst hp; subst hvs
  obtain ⟨cl, Ar, q, S, N1, H, G⟩ := F
  have hin := inb_of S hj
  obtain ⟨T', h', X', e', W', st'⟩ := stD X hx hZ eT Ar (j := j) hin (g := mkF m pc Ls (.double x :: .int j :: .ref a :: st)) rfl rfl hd
  exact own_st st' (k T' h' X' e' W' (Arv.set Ar q S N1 H G rfl W' i hi hl))
theorem own_stB (X : Stand p l e R s m args below meth c T locs cells slots) (hx : p.tables.exec = Jvm.exec) (hZ : Z.Warmed39 s.vm) (eT : T.heap = h) {a : Addr} {kA : ClassId} {n : Int32} {vs : List Value} {dv : Value} (F : Arv Z h a kA .byte n vs dv) {j : Int32} {x : Int32} (hj : ¬ j < 0 ∧ j < n) (i : Nat) (hi : j.toNatClampNeg = i) (hl : i < vs.length) (vs' : List Value) (hvs : vs.set i (.int x.toInt8.toInt32) = vs') (pc' : Nat) (hp : pc + 1 = pc') (hd : decode c.code pc = .ok (.bastore, 1))
    (k : ∀ T' h', Stand p l e R s m args below meth c T' (locs ++ [⟨a, j.toNatClampNeg⟩]) cells slots → T'.heap = h' → Wr h h' a j.toNatClampNeg (.int x.toInt8.toInt32) → Arv Z h' a kA .byte n vs' dv → own_Go p e below Fe Q (T'.setTop (mkF m pc' Ls st))) : own_Go p e below Fe Q (T.setTop (mkF m pc Ls (.int x :: .int j :: .ref a :: st))) := by
  subst hp; subst hvs
  obtain ⟨cl, Ar, q, S, N1, H, G⟩ := F
  have hin := inb_of S hj
  obtain ⟨T', h', X', e', W', st'⟩ := stB X hx hZ eT Ar (j := j) hin (g := mkF m pc Ls (.int x :: .int j :: .ref a :: st)) rfl rfl hd
  exact own_st st' (k T' h' X' e' W' (Arv.set Ar q S N1 H G (fits_nar_byte x) W' i hi hl))
theorem own_stZ (X : Stand p l e R s m args below meth c T locs cells slots) (hx : p.tables.exec = Jvm.exec) (hZ : Z.Warmed39 s.vm) (eT : T.heap = h) {a : Addr} {kA : ClassId} {n : Int32} {vs : List Value} {dv : Value} (F : Arv Z h a kA .boolean n vs dv) {j : Int32} {x : Int32} (hj : ¬ j < 0 ∧ j < n) (i : Nat) (hi : j.toNatClampNeg = i) (hl : i < vs.length) (vs' : List Value) (hvs : vs.set i (.int (nar .boolean x)) = vs') (pc' : Nat) (hp : pc + 1 = pc') (hd : decode c.code pc = .ok (.bastore, 1))
    (k : ∀ T' h', Stand p l e R s m args below meth c T' (locs ++ [⟨a, j.toNatClampNeg⟩]) cells slots → T'.heap = h' → Wr h h' a j.toNatClampNeg (.int (nar .boolean x)) → Arv Z h' a kA .boolean n vs' dv → own_Go p e below Fe Q (T'.setTop (mkF m pc' Ls st))) : own_Go p e below Fe Q (T.setTop (mkF m pc Ls (.int x :: .int j :: .ref a :: st))) := by
  subst hp; subst hvs
  obtain ⟨cl, Ar, q, S, N1, H, G⟩ := F
  have hin := inb_of S hj
  obtain ⟨T', h', X', e', W', st'⟩ := stZ X hx hZ eT Ar (j := j) hin (g := mkF m pc Ls (.int x :: .int j :: .ref a :: st)) rfl rfl hd
  exact own_st st' (k T' h' X' e' W' (Arv.set Ar q S N1 H G (fits_nar_bool x) W' i hi hl))
theorem own_stC (X : Stand p l e R s m args below meth c T locs cells slots) (hx : p.tables.exec = Jvm.exec) (hZ : Z.Warmed39 s.vm) (eT : T.heap = h) {a : Addr} {kA : ClassId} {n : Int32} {vs : List Value} {dv : Value} (F : Arv Z h a kA .char n vs dv) {j : Int32} {x : Int32} (hj : ¬ j < 0 ∧ j < n) (i : Nat) (hi : j.toNatClampNeg = i) (hl : i < vs.length) (vs' : List Value) (hvs : vs.set i (.int (nar .char x)) = vs') (pc' : Nat) (hp : pc + 1 = pc') (hd : decode c.code pc = .ok (.castore, 1))
    (k : ∀ T' h', Stand p l e R s m args below meth c T' (locs ++ [⟨a, j.toNatClampNeg⟩]) cells slots → T'.heap = h' → Wr h h' a j.toNatClampNeg (.int (nar .char x)) → Arv Z h' a kA .char n vs' dv → own_Go p e below Fe Q (T'.setTop (mkF m pc' Ls st))) : own_Go p e below Fe Q (T.setTop (mkF m pc Ls (.int x :: .int j :: .ref a :: st))) := by
  subst hp; subst hvs
  obtain ⟨cl, Ar, q, S, N1, H, G⟩ := F
  have hin := inb_of S hj
  obtain ⟨T', h', X', e', W', st'⟩ := stC X hx hZ eT Ar (j := j) hin (g := mkF m pc Ls (.int x :: .int j :: .ref a :: st)) rfl rfl hd
  exact own_st st' (k T' h' X' e' W' (Arv.set Ar q S N1 H G (fits_nar_char x) W' i hi hl))
theorem own_ldI (X : Stand p l e R s m args below meth c T locs cells slots) (hx : p.tables.exec = Jvm.exec) (hZ : Z.Warmed39 s.vm) (eT : T.heap = h) {a : Addr} {kA : ClassId} {n : Int32} {vs : List Value} {dv : Value} (F : Arv Z h a kA .int n vs dv) {j : Int32} (hj : ¬ j < 0 ∧ j < n) (x : Int32) (hv : vs.getD j.toNatClampNeg dv = (.int x)) (pc' : Nat) (hp : pc + 1 = pc') (hd : decode c.code pc = .ok (.iaload, 1))
    (k : own_Go p e below Fe Q (T.setTop (mkF m pc' Ls (.int x :: st)))) : own_Go p e below Fe Q (T.setTop (mkF m pc Ls (.int j :: .ref a :: st))) := by
  subst hp
  obtain ⟨cl, Ar, q, S, N1, H, G⟩ := F
  have hin := inb_of S hj
  exact own_st (X.iaload hx (j := j) (v := .int x) (by rw [eT]; exact Ar.1) (State.isArrayOf_alike hZ.alike Ar.2.1) Ar.2.2 hin (Has.at H hin hv) (g := mkF m pc Ls (.int j :: .ref a :: st)) rfl rfl hd) k
theorem own_ldD (X : Stand p l e R s m args below meth c T locs cells slots) (hx : p.tables.exec = Jvm.exec) (hZ : Z.Warmed39 s.vm) (eT : T.heap = h) {a : Addr} {kA : ClassId} {n : Int32} {vs : List Value} {dv : Value} (F : Arv Z h a kA .double n vs dv) {j : Int32} (hj : ¬ j < 0 ∧ j < n) (x : UInt64) (hv : vs.getD j.toNatClampNeg dv = (.double x)) (pc' : Nat) (hp : pc + 1 = pc') (hd : decode c.code pc = .ok (.daload, 1))
    (k : own_Go p e below Fe Q (T.setTop (mkF m pc' Ls (.double x :: st)))) : own_Go p e below Fe Q (T.setTop (mkF m pc Ls (.int j :: .ref a :: st))) := by
  subst hp
  obtain ⟨cl, Ar, q, S, N1, H, G⟩ := F
  have hin := inb_of S hj
  exact own_st (X.daload hx (j := j) (v := .double x) (by rw [eT]; exact Ar.1) (State.isArrayOf_alike hZ.alike Ar.2.1) Ar.2.2 hin (Has.at H hin hv) (g := mkF m pc Ls (.int j :: .ref a :: st)) rfl rfl hd) k
theorem own_ldJ (X : Stand p l e R s m args below meth c T locs cells slots) (hx : p.tables.exec = Jvm.exec) (hZ : Z.Warmed39 s.vm) (eT : T.heap = h) {a : Addr} {kA : ClassId} {n : Int32} {vs : List Value} {dv : Value} (F : Arv Z h a kA .long n vs dv) {j : Int32} (hj : ¬ j < 0 ∧ j < n) (x : Int64) (hv : vs.getD j.toNatClampNeg dv = (.long x)) (pc' : Nat) (hp : pc + 1 = pc') (hd : decode c.code pc = .ok (.laload, 1))
    (k : own_Go p e below Fe Q (T.setTop (mkF m pc' Ls (.long x :: st)))) : own_Go p e below Fe Q (T.setTop (mkF m pc Ls (.int j :: .ref a :: st))) := by
  subst hp
  obtain ⟨cl, Ar, q, S, N1, H, G⟩ := F
  have hin := inb_of S hj
  exact own_st (X.laload hx (j := j) (v := .long x) (by rw [eT]; exact Ar.1) (State.isArrayOf_alike hZ.alike Ar.2.1) Ar.2.2 hin (Has.at H hin hv) (g := mkF m pc Ls (.int j :: .ref a :: st)) rfl rfl hd) k
theorem own_len (X : Stand p l e R s m args below meth c T locs cells slots) (hx : p.tables.exec = Jvm.exec) (hZ : Z.Warmed39 s.vm) (eT : T.heap = h) {a : Addr} {kA : ClassId} {ty : FieldType} {n : Int32} {vs : List Value} {dv : Value} (F : Arv Z h a kA ty n vs dv) (pc' : Nat) (hp : pc + 1 = pc') (hd : decode c.code pc = .ok (.arraylength, 1))
    (k : own_Go p e below Fe Q (T.setTop (mkF m pc' Ls (.int n :: st)))) : own_Go p e below Fe Q (T.setTop (mkF m pc Ls (.ref a :: st))) := by
  subst hp
  obtain ⟨cl, Ar, q, S, N1, H, G⟩ := F
  refine own_st (X.arraylength hx (by rw [eT]; exact Ar.1) (State.isArrayOf_alike hZ.alike Ar.2.1) (g := mkF m pc Ls (.ref a :: st)) rfl rfl hd) ?_
  rw [len_of S N1]
  exact k
theorem own_initO (X : Stand p l e R s m args below meth c T locs cells slots) (hx : p.tables.exec = Jvm.exec) (hZ : Z.Warmed39 s.vm) {own : String} {idx : Nat} (hown : s.vm.findClass own = some m.cls) (w1 : (Jvm.Cond.methodLink own idx Lib.objectInit).before a0 Z = true) (w2 : (Jvm.Cond.instanceMethod Lib.objectInit).before a0 Z = true) (w3 : (Jvm.Cond.code Lib.objectInit ⟨#[0xb1]⟩ 1 none).before a0 Z = true) (eT : T.heap = h) (hsize : Ls.size = c.maxLocals) {a : Addr} (pc' : Nat) (hp : pc + 3 = pc') (hd : decode c.code pc = .ok (.invokespecial idx, 3)) (hf : 1 ≤ R.frames) (W : Nat) (hW : 2 * 0 + (st.map fun v => v.category).sum ≤ W) (hl : W + 12 ≤ R.locals)
    (k : ∀ T', Stand p l e R s m args below meth c T' locs cells slots → T'.heap = h → own_Go p e below Fe Q (T'.setTop (mkF m pc' Ls st))) : own_Go p e below Fe Q (T.setTop (mkF m pc Ls (.ref a :: st))) := by
  subst hp
  obtain ⟨T', X', e', st'⟩ := initO X hx hZ hown w1 w2 w3 eT (g := mkF m pc Ls (.ref a :: st)) rfl hsize rfl hd hf hW hl
  exact own_st st' (k T' X' e')
theorem own_callS (X : Stand p l e R s m args below meth c T locs cells slots) (hx : p.tables.exec = Jvm.exec) (hZ : Z.Warmed39 s.vm) {own : String} {index : Nat} {y : MethodName} (hown : s.vm.findClass own = some m.cls) (w1 : (Jvm.Cond.methodLink own index y).before a0 Z = true) (w2 : (Jvm.Cond.static y).before a0 Z = true) (hy : y.cls ≠ "java/lang/invoke/MethodHandle" ∧ y.cls ≠ "java/lang/invoke/VarHandle") {bytes : ByteArray} {maxL : Nat} {ret : Option FieldType} {rm : Room} {as' : Array Value} {Q' : Option Value → Heap → List Loc → Prop} (hM : MetFree l y (head1 [Jvm.Cond.code y bytes maxL ret] rm) (fun a U => a = as' ∧ Z.Warmed39 U.vm ∧ U.heap = h) (fun _ _ _ _ _ => True) (fun _ U o U' => ∃ v L, o = .returned v ∧ Q' v U'.heap L ∧ FrameEnd U o U' L rm.cells rm.slots)) (wc : (Jvm.Cond.code y bytes maxL ret).before a0 Z = true) (wz : (Jvm.Cond.initialized y.cls).before a0 Z = true) (hfr : rm.frames + 1 ≤ R.frames) (eT : T.heap = h) (hsize : Ls.size = c.maxLocals) (argsL : List Value) {rest : List Value} (W : Nat) (hlo : W + (maxL + 11) + rm.locals ≤ R.locals) (hW : 2 * 0 + (rest.map fun v => v.category).sum ≤ W) (hcells : cells + rm.cells ≤ R.cells) (hslots : slots + rm.slots ≤ R.slots) (hlen : ∀ sig, parseMethodDescriptor y.desc = some sig → argsL.length = sig.parameters.length) (hst : st = argsL.reverse ++ rest) (has : argsL.toArray = as') (pc' : Nat) (hp : pc + 3 = pc') (hd : decode c.code pc = .ok (.invokestatic index, 3))
    (k : ∀ v T' Lc, Stand p l e R s m args below meth c T' (locs ++ Lc) (cells + rm.cells) (slots + rm.slots) → Q' v T'.heap Lc → own_Go p e below Fe Q (T'.setTop (mkF m pc' Ls (v.toList ++ rest)))) : own_Go p e below Fe Q (T.setTop (mkF m pc Ls st)) := by
  subst hp
  obtain ⟨v, _, ⟨T', L', k', n'⟩, -, X', ⟨Lc, hQ, l1, l2, l3⟩, st'⟩ := Jvm.LawKit.callS X hx (y := y) hown (mvT hZ w1) (mvT hZ w2) (mvT hZ wz) (mvT hZ wc) hy (backOf (W := W) hM hZ wc wz hfr hlo) (g := mkF m pc Ls st) rfl hsize (argsL := argsL) (rest := rest) hlen hst hW hd (fun _ _ => ⟨has, eT, hcells, hslots⟩)
  dsimp only [Pt.U, Pt.locs, Pt.cells, Pt.slots] at X' l1 l2 l3 st' hQ
  subst l1 l2 l3
  exact own_st st' (k v T' Lc X' hQ)
theorem own_special (X : Stand p l e R s m args below meth c T locs cells slots) (hx : p.tables.exec = Jvm.exec) (hZ : Z.Warmed39 s.vm) {own : String} {index : Nat} {y : MethodName} (hown : s.vm.findClass own = some m.cls) (hy1 : y.name = "<init>") (w1 : (Jvm.Cond.methodLink own index y).before a0 Z = true) (w2 : (Jvm.Cond.instanceMethod y).before a0 Z = true) {a : Addr} (hy : y.cls ≠ "java/lang/invoke/MethodHandle" ∧ y.cls ≠ "java/lang/invoke/VarHandle") {bytes : ByteArray} {maxL : Nat} {ret : Option FieldType} {rm : Room} {as' : Array Value} {Q' : Option Value → Heap → List Loc → Prop} (hret : ret = none) (hM : MetFree l y (head1 [Jvm.Cond.code y bytes maxL ret] rm) (fun a U => a = as' ∧ Z.Warmed39 U.vm ∧ U.heap = h) (fun _ _ _ _ _ => True) (fun _ U o U' => ∃ v L, o = .returned v ∧ Q' v U'.heap L ∧ FrameEnd U o U' L rm.cells rm.slots)) (wc : (Jvm.Cond.code y bytes maxL ret).before a0 Z = true) (wz : (Jvm.Cond.initialized y.cls).before a0 Z = true) (hfr : rm.frames + 1 ≤ R.frames) (eT : T.heap = h) (hsize : Ls.size = c.maxLocals) (argsL : List Value) {rest : List Value} (W : Nat) (hlo : W + (maxL + 11) + rm.locals ≤ R.locals) (hW : 2 * 0 + (rest.map fun v => v.category).sum ≤ W) (hcells : cells + rm.cells ≤ R.cells) (hslots : slots + rm.slots ≤ R.slots) (hlen : ∀ sig, parseMethodDescriptor y.desc = some sig → argsL.length = sig.parameters.length) (hst : st = argsL.reverse ++ .ref a :: rest) (has : (.ref a :: argsL).toArray = as') (pc' : Nat) (hp : pc + 3 = pc') (hd : decode c.code pc = .ok (.invokespecial index, 3))
    (k : ∀ v T' Lc, Stand p l e R s m args below meth c T' (locs ++ Lc) (cells + rm.cells) (slots + rm.slots) → Q' v T'.heap Lc → own_Go p e below Fe Q (T'.setTop (mkF m pc' Ls (v.toList ++ rest)))) : own_Go p e below Fe Q (T.setTop (mkF m pc Ls st)) := by
  subst hp
  obtain ⟨v, _, ⟨T', L', k', n'⟩, -, X', ⟨Lc, hQ, l1, l2, l3⟩, st'⟩ := X.specialBack hx (y := y) hy1 hown (mvT hZ w1) (mvT hZ w2) (mvT hZ (hret ▸ wc)) hy (backOf (W := W) hM hZ wc wz hfr hlo) (g := mkF m pc Ls st) rfl hsize (Steps.refl _) (a := a) (argsL := argsL) (rest := rest) hlen hst hW hd (fun _ _ => ⟨has, eT, hcells, hslots⟩)
  dsimp only [Pt.U, Pt.locs, Pt.cells, Pt.slots] at X' l1 l2 l3 st' hQ
  subst l1 l2 l3
  exact own_tr st' (k v T' Lc X' hQ)
theorem own_virtual (X : Stand p l e R s m args below meth c T locs cells slots) (hx : p.tables.exec = Jvm.exec) (hZ : Z.Warmed39 s.vm) {own : String} {index : Nat} {C : String} {y z : MethodName} (hown : s.vm.findClass own = some m.cls) (w1 : (Jvm.Cond.methodLink own index y).before a0 Z = true) (w2 : (Jvm.Cond.declares y).before a0 Z = true) (w3 : (Jvm.Cond.selects C y z).before a0 Z = true) (w4 : (Jvm.Cond.instanceMethod z).before a0 Z = true) (hyz : y = z) {a : Addr} (E : Exa Z h a C) (hy : y.cls ≠ "java/lang/invoke/MethodHandle" ∧ y.cls ≠ "java/lang/invoke/VarHandle") {bytes : ByteArray} {maxL : Nat} {ret : Option FieldType} {rm : Room} {as' : Array Value} {Q' : Option Value → Heap → List Loc → Prop} (hM : MetFree l z (head1 [Jvm.Cond.code z bytes maxL ret] rm) (fun a U => a = as' ∧ Z.Warmed39 U.vm ∧ U.heap = h) (fun _ _ _ _ _ => True) (fun _ U o U' => ∃ v L, o = .returned v ∧ Q' v U'.heap L ∧ FrameEnd U o U' L rm.cells rm.slots)) (wc : (Jvm.Cond.code z bytes maxL ret).before a0 Z = true) (wz : (Jvm.Cond.initialized z.cls).before a0 Z = true) (hfr : rm.frames + 1 ≤ R.frames) (eT : T.heap = h) (hsize : Ls.size = c.maxLocals) (argsL : List Value) {rest : List Value} (W : Nat) (hlo : W + (maxL + 11) + rm.locals ≤ R.locals) (hW : 2 * 0 + (rest.map fun v => v.category).sum ≤ W) (hcells : cells + rm.cells ≤ R.cells) (hslots : slots + rm.slots ≤ R.slots) (hlen : ∀ sig, parseMethodDescriptor y.desc = some sig → argsL.length = sig.parameters.length) (hst : st = argsL.reverse ++ .ref a :: rest) (has : (.ref a :: argsL).toArray = as') (pc' : Nat) (hp : pc + 3 = pc') (hd : decode c.code pc = .ok (.invokevirtual index, 3))
    (k : ∀ v T' Lc, Stand p l e R s m args below meth c T' (locs ++ Lc) (cells + rm.cells) (slots + rm.slots) → Q' v T'.heap Lc → own_Go p e below Fe Q (T'.setTop (mkF m pc' Ls (v.toList ++ rest)))) : own_Go p e below Fe Q (T.setTop (mkF m pc Ls st)) := by
  subst hp
  obtain ⟨cB, kB, qa, qb, qc⟩ := isOf hZ eT E
  obtain ⟨v, _, ⟨T', L', k', n'⟩, -, X', ⟨Lc, hQ, l1, l2, l3⟩, st'⟩ := X.virtualBack hx (y := y) (z := z) hown (mvT hZ w1) (mvT hZ w2) (hyz ▸ notFace_of_selects (args := #[]) (mvT hZ (hyz ▸ w3 : (Jvm.Cond.selects C z z).before a0 Z = true))) (mvT hZ w3) (mvT hZ w4) hy (backOf (W := W) hM hZ wc wz hfr hlo) qa qc (g := mkF m pc Ls st) rfl hsize (Steps.refl _) (argsL := argsL) (rest := rest) hlen hst hW hd (fun _ _ => ⟨has, eT, hcells, hslots⟩)
  dsimp only [Pt.U, Pt.locs, Pt.cells, Pt.slots] at X' l1 l2 l3 st' hQ
  subst l1 l2 l3
  exact own_tr st' (k v T' Lc X' hQ)
theorem own_virtualUp (X : Stand p l e R s m args below meth c T locs cells slots) (hx : p.tables.exec = Jvm.exec) (hZ : Z.Warmed39 s.vm) {own : String} {index : Nat} {C owner : String} {x y : MethodName} (hown : s.vm.findClass own = some m.cls) (w1 : (Jvm.Cond.methodLink own index x).before a0 Z = true) (w2 : (Jvm.Cond.sameMethod x.cls owner x.name x.desc).before a0 Z = true) (w2' : (Jvm.Cond.declares ⟨owner, x.name, x.desc⟩).before a0 Z = true) (w3 : (Jvm.Cond.selects C x y).before a0 Z = true) (w4 : (Jvm.Cond.instanceMethod y).before a0 Z = true) {a : Addr} (E : Exa Z h a C) (ho : owner ≠ "java/lang/invoke/MethodHandle" ∧ owner ≠ "java/lang/invoke/VarHandle") {bytes : ByteArray} {maxL : Nat} {ret : Option FieldType} {rm : Room} {as' : Array Value} {Q' : Option Value → Heap → List Loc → Prop} (hM : MetFree l y (head1 [Jvm.Cond.code y bytes maxL ret] rm) (fun a U => a = as' ∧ Z.Warmed39 U.vm ∧ U.heap = h) (fun _ _ _ _ _ => True) (fun _ U o U' => ∃ v L, o = .returned v ∧ Q' v U'.heap L ∧ FrameEnd U o U' L rm.cells rm.slots)) (wc : (Jvm.Cond.code y bytes maxL ret).before a0 Z = true) (wz : (Jvm.Cond.initialized y.cls).before a0 Z = true) (hfr : rm.frames + 1 ≤ R.frames) (eT : T.heap = h) (hsize : Ls.size = c.maxLocals) (argsL : List Value) {rest : List Value} (W : Nat) (hlo : W + (maxL + 11) + rm.locals ≤ R.locals) (hW : 2 * 0 + (rest.map fun v => v.category).sum ≤ W) (hcells : cells + rm.cells ≤ R.cells) (hslots : slots + rm.slots ≤ R.slots) (hlen : ∀ sig, parseMethodDescriptor x.desc = some sig → argsL.length = sig.parameters.length) (hst : st = argsL.reverse ++ .ref a :: rest) (has : (.ref a :: argsL).toArray = as') (pc' : Nat) (hp : pc + 3 = pc') (hd : decode c.code pc = .ok (.invokevirtual index, 3))
    (k : ∀ v T' Lc, Stand p l e R s m args below meth c T' (locs ++ Lc) (cells + rm.cells) (slots + rm.slots) → Q' v T'.heap Lc → own_Go p e below Fe Q (T'.setTop (mkF m pc' Ls (v.toList ++ rest)))) : own_Go p e below Fe Q (T.setTop (mkF m pc Ls st)) := by
  subst hp
  obtain ⟨cB, kB, qa, qb, qc⟩ := isOf hZ eT E
  obtain ⟨v, _, ⟨T', L', k', n'⟩, -, X', ⟨Lc, hQ, l1, l2, l3⟩, st'⟩ := X.virtualBackUp hx (x := x) (y := y) (owner := owner) hown (mvT hZ w1) (mvT hZ w2) (mvT hZ w2') ho (mvT hZ w3) (mvT hZ w4) (backOf (W := W) hM hZ wc wz hfr hlo) qa qc (g := mkF m pc Ls st) rfl hsize (Steps.refl _) (argsL := argsL) (rest := rest) hlen hst hW hd (fun _ _ => ⟨has, eT, hcells, hslots⟩)
  dsimp only [Pt.U, Pt.locs, Pt.cells, Pt.slots] at X' l1 l2 l3 st' hQ
  subst l1 l2 l3
  exact own_tr st' (k v T' Lc X' hQ)
theorem own_private (X : Stand p l e R s m args below meth c T locs cells slots) (hx : p.tables.exec = Jvm.exec) (hZ : Z.Warmed39 s.vm) {own : String} {index : Nat} {y z : MethodName} (hown : s.vm.findClass own = some m.cls) (w1 : (Jvm.Cond.methodLink own index y).before a0 Z = true) (w2 : (Jvm.Cond.instanceMethod y).before a0 Z = true) (hz : z.cls = y.cls) (w3 : (Jvm.Cond.selects z.cls z z).before a0 Z = true) (w4 : (Jvm.Cond.privateMethod y).before a0 Z = true) {a : Addr} (E : Exa Z h a y.cls) (hy : y.cls ≠ "java/lang/invoke/MethodHandle" ∧ y.cls ≠ "java/lang/invoke/VarHandle") {bytes : ByteArray} {maxL : Nat} {ret : Option FieldType} {rm : Room} {as' : Array Value} {Q' : Option Value → Heap → List Loc → Prop} (hM : MetFree l y (head1 [Jvm.Cond.code y bytes maxL ret] rm) (fun a U => a = as' ∧ Z.Warmed39 U.vm ∧ U.heap = h) (fun _ _ _ _ _ => True) (fun _ U o U' => ∃ v L, o = .returned v ∧ Q' v U'.heap L ∧ FrameEnd U o U' L rm.cells rm.slots)) (wc : (Jvm.Cond.code y bytes maxL ret).before a0 Z = true) (wz : (Jvm.Cond.initialized y.cls).before a0 Z = true) (hfr : rm.frames + 1 ≤ R.frames) (eT : T.heap = h) (hsize : Ls.size = c.maxLocals) (argsL : List Value) {rest : List Value} (W : Nat) (hlo : W + (maxL + 11) + rm.locals ≤ R.locals) (hW : 2 * 0 + (rest.map fun v => v.category).sum ≤ W) (hcells : cells + rm.cells ≤ R.cells) (hslots : slots + rm.slots ≤ R.slots) (hlen : ∀ sig, parseMethodDescriptor y.desc = some sig → argsL.length = sig.parameters.length) (hst : st = argsL.reverse ++ .ref a :: rest) (has : (.ref a :: argsL).toArray = as') (pc' : Nat) (hp : pc + 3 = pc') (hd : decode c.code pc = .ok (.invokevirtual index, 3))
    (k : ∀ v T' Lc, Stand p l e R s m args below meth c T' (locs ++ Lc) (cells + rm.cells) (slots + rm.slots) → Q' v T'.heap Lc → own_Go p e below Fe Q (T'.setTop (mkF m pc' Ls (v.toList ++ rest)))) : own_Go p e below Fe Q (T.setTop (mkF m pc Ls st)) := by
  subst hp
  obtain ⟨cq, q1, q2⟩ := E.cell
  have hsel : (Jvm.Cond.selects y.cls y y).before args s = true := by
    obtain ⟨c2, r2, m2, -, -, q3, -, kP, hkP, hkPi⟩ := Cond.selects_spec (mvT hZ w3 : (Jvm.Cond.selects z.cls z z).before args s = true)
    exact selects_self_of_private (hz ▸ findClass_of_methodNamed q3) hkP hkPi (Cond.privateMethod_at (mvP hZ w4 (args := #[]))) (mvT hZ w2) hy
  obtain ⟨v, _, ⟨T', L', k', n'⟩, -, X', ⟨Lc, hQ, l1, l2, l3⟩, st'⟩ := X.privateBack hx (y := y) hown (mvT hZ w1) (mvT hZ w2) hsel (Cond.privateMethod_at (mvP hZ w4 (args := #[]))) (mvT hZ wc) hy (backOf (W := W) hM hZ wc wz hfr hlo) (g := mkF m pc Ls st) rfl hsize (Steps.refl _) (a := a) (by rw [eT]; exact q1) q2 (argsL := argsL) (rest := rest) hlen hst hW hd (fun _ _ => ⟨has, eT, hcells, hslots⟩)
  dsimp only [Pt.U, Pt.locs, Pt.cells, Pt.slots] at X' l1 l2 l3 st' hQ
  subst l1 l2 l3
  exact own_tr st' (k v T' Lc X' hQ)
theorem own_rawbits (X : Stand p l e R s m args below meth c T locs cells slots) (hx : p.tables.exec = Jvm.exec) (hZ : Z.Warmed39 s.vm) {own : String} {index : Nat} (hown : s.vm.findClass own = some m.cls) (w1 : (Jvm.Cond.methodLink own index doubleToRawLongBitsName).before a0 Z = true) (w2 : (Jvm.Cond.native doubleToRawLongBitsName).before a0 Z = true) (w3 : (Jvm.Cond.static doubleToRawLongBitsName).before a0 Z = true) (w4 : (Jvm.Cond.initialized "java/lang/Double").before a0 Z = true) (eT : T.heap = h) (hsize : Ls.size = c.maxLocals) {b : UInt64} (pc' : Nat) (hp : pc + 3 = pc') (hd : decode c.code pc = .ok (.invokestatic index, 3)) (hf : 1 ≤ R.frames) (W : Nat) (hW : 2 * 0 + (st.map fun v => v.category).sum ≤ W) (hl : W + 15 ≤ R.locals)
    (k : ∀ T', Stand p l e R s m args below meth c T' locs cells slots → T'.heap = h → own_Go p e below Fe Q (T'.setTop (mkF m pc' Ls (.long b.toInt64 :: st)))) : own_Go p e below Fe Q (T.setTop (mkF m pc Ls (.double b :: st))) := by
  subst hp
  obtain ⟨vm', X', st'⟩ := X.doubleToRawLongBits hx hown (mvT hZ w1) (mvT hZ w2) (mvT hZ w3) (mvT hZ w4) (g := mkF m pc Ls (.double b :: st)) rfl hsize (rest := st) (b := b) rfl hd hf (Nat.le_trans (Nat.add_le_add_right hW _) hl)
  exact own_st st' (k _ X' eT)
end OwnSteps
theorem own_lit0 : ((0 : Int32)).toInt = 0 := by decide
theorem own_inf_val : FP.Core.val64 (9218868437227405312 : UInt64) = .inf false := by decide +kernel
theorem own_inf_nan : FP.Core.val64 (9218868437227405312 : UInt64) ≠ .nan := by rw [own_inf_val]; exact fun q => FP.Core.Datum.noConfusion q
theorem own_le_inf (x : UInt64) : own_z x ≤ own_z (9218868437227405312 : UInt64) := by
  have e : own_z (9218868437227405312 : UInt64) = ((FP.Core.b64.tails * 2 ^ (FP.Core.b64.exps - 2) : Nat) : Int) := by unfold own_z; rw [own_inf_val]; rfl
  rw [e]
  have k := FP.Core.zmag_le_top FP.Core.good_b64 (FP.Core.val64_fits x)
  unfold own_z FP.Core.zval FP.Core.signed
  split <;> omega
/-- what the t-th distance is: infinite from the k-th on -/
def own_v (t k a : Int32) : UInt64 := if t < k then FP.i2d a else (9218868437227405312 : UInt64)
theorem own_v_nan (t k a : Int32) : FP.Core.val64 (own_v t k a) ≠ .nan := by
  unfold own_v
  split
  · exact (own_is.i2d a).val
  · exact own_inf_nan
theorem own_v_le {t t' k a a' : Int32} (ht : t < t') (ha : a.toInt ≤ a'.toInt) : own_z (own_v t k a) ≤ own_z (own_v t' k a') := by
  unfold own_v
  by_cases h : t' < k
  · rw [if_pos h, if_pos (by rw [Int32.lt_iff_toInt_lt] at *; omega)]
    exact Int.not_lt.mp fun q => by have := ((own_is.i2d a').lt_iff (own_is.i2d a)).mp q; omega
  · rw [if_neg h]; exact own_le_inf _
def own_a0 (i : Int32) : Int32 := i &&& (15 : Int32)
def own_a1 (i : Int32) : Int32 := own_a0 i + (((i.toUInt32 >>> ((4 : Int32) &&& 31).toUInt32).toInt32) &&& (15 : Int32))
def own_a2 (i : Int32) : Int32 := own_a1 i + (((i.toUInt32 >>> ((8 : Int32) &&& 31).toUInt32).toInt32) &&& (15 : Int32))
theorem own_a_rng (i : Int32) : 0 ≤ (own_a0 i).toInt ∧ (own_a0 i).toInt ≤ (own_a1 i).toInt ∧ (own_a1 i).toInt ≤ (own_a2 i).toInt ∧ (own_a2 i).toInt ≤ 45 := by
  have h0 := c_mask i 15 4 (by decide) (by decide)
  have h1 := c_mask ((i.toUInt32 >>> ((4 : Int32) &&& 31).toUInt32).toInt32) 15 4 (by decide) (by decide)
  have h2 := c_mask ((i.toUInt32 >>> ((8 : Int32) &&& 31).toUInt32).toInt32) 15 4 (by decide) (by decide)
  have h3 := c_iadd (own_a0 i) (((i.toUInt32 >>> ((4 : Int32) &&& 31).toUInt32).toInt32) &&& (15 : Int32))
  have h4 := rng32 (own_a1 i)
  have h5 := c_iadd (own_a1 i) (((i.toUInt32 >>> ((8 : Int32) &&& 31).toUInt32).toInt32) &&& (15 : Int32))
  have h6 := rng32 (own_a2 i)
  unfold own_a2 at *
  unfold own_a1 at *
  unfold own_a0 at *
  omega
def own_r (i : Int32) : Int32 := (1 : Int32) + ((i &&& (3 : Int32)) % (3 : Int32))
theorem own_r_rng (i : Int32) : own_r i = 1 ∨ own_r i = 2 ∨ own_r i = 3 := by
  have h0 := c_mask i 3 2 (by decide) (by decide)
  have h1 : ((3 : Int32)).toInt = 3 := by decide
  have h2 := (c_iremV (i &&& (3 : Int32)) (3 : Int32)).1 (by omega) (by omega)
  have h3 := c_iadd 1 ((i &&& (3 : Int32)) % (3 : Int32))
  have h4 := rng32 (own_r i)
  have z1 : ((1 : Int32)).toInt = 1 := by decide
  have z2 : ((2 : Int32)).toInt = 2 := by decide
  have h5 : (own_r i).toInt = 1 ∨ (own_r i).toInt = 2 ∨ (own_r i).toInt = 3 := by unfold own_r at *; omega
  rcases h5 with h | h | h
  · exact Or.inl (Int32.toInt_inj.mp (h.trans z1.symm))
  · exact Or.inr (Or.inl (Int32.toInt_inj.mp (h.trans z2.symm)))
  · exact Or.inr (Or.inr (Int32.toInt_inj.mp (h.trans h1.symm)))
def own_to (i : Int32) : Int32 := ((i.toUInt32 >>> ((2 : Int32) &&& 31).toUInt32).toInt32) &&& (1 : Int32)
theorem own_to_rng (i : Int32) : own_to i = 0 ∨ own_to i = 1 := and_one _
def own_k (i : Int32) : Int32 := ((i.toUInt32 >>> ((3 : Int32) &&& 31).toUInt32).toInt32) &&& (3 : Int32)
/-- the distance to take in -/
def own_dd (d : UInt64) : Prop := FP.Core.val64 d ≠ .nan
section OwnCmp
variable {x y : UInt64}
theorem own_cg (hx : FP.Core.val64 x ≠ .nan) (hy : FP.Core.val64 y ≠ .nan) (h : own_z x < own_z y) (o : CmpOp) : cmpValue (FP.dcmp x y) o < 0 := by rw [own_cmp_lt hx hy h]; decide
theorem own_cp (hx : FP.Core.val64 x ≠ .nan) (hy : FP.Core.val64 y ≠ .nan) (h : own_z y < own_z x) (o : CmpOp) : 0 < cmpValue (FP.dcmp x y) o := by rw [own_cmp_gt hx hy h]; decide
theorem own_self (hx : FP.Core.val64 x ≠ .nan) : cmpValue (FP.dcmp x x) .l = 0 := own_cmp_eq hx hx rfl .l
theorem own_cst : FP.Core.val64 (4652007308841189376 : UInt64) ≠ .nan ∧ FP.Core.val64 (4652016104934211584 : UInt64) ≠ .nan ∧ FP.Core.val64 (4652024901027233792 : UInt64) ≠ .nan ∧ FP.Core.val64 (4652033697120256000 : UInt64) ≠ .nan ∧ FP.Core.val64 (4652042493213278208 : UInt64) ≠ .nan ∧ FP.Core.val64 (4652051289306300416 : UInt64) ≠ .nan := by decide +kernel
end OwnCmp
theorem own_pn0 : plainName "com/example/outpost/outpost/model/DistancesKeepNearerPinLaw" = true := by first | (simp [plainName, overriddenIn]; done) | decide +kernel
theorem own_ef_rm_expD_A1 (m : MethodId) (i : Int32) (f : Int32) (r : Int32) (pz : Int32) (d : UInt64) (a : Addr) : entryFrame m #[(.int i), (.int f), (.int r), (.int pz), (.int (0 : Int32)), (.double d), (.ref a)] 9 = mkF m 0 #[.val (.int i), .val (.int f), .val (.int r), .val (.int pz), .val (.int (0 : Int32)), .val (.double d), .second, .val (.ref a), .unset] [] := by first | (simp [entryFrame, mkF, argsToLocals, Value.category]; done) | rfl
def Q_rm_expD_A1 (Z : State) (i : Int32) (f : Int32) (r : Int32) (pz : Int32) (d : UInt64) (a : Addr) (k : ClassId) (vs : List Value) (x : UInt64) (h0 : Heap) (n0 : Nat) (v : Option Value) (h : Heap) (L : List Loc) : Prop := v = some (.double x) ∧ Fr n0 L ∧ h = h0
theorem own_d3_0 : decode method_2_code 0 = .ok (.iload 4, 2) := by decide +kernel
theorem own_d3_2 : decode method_2_code 2 = .ok (.ifCond .eq 15, 3) := by decide +kernel
theorem own_d3_17 : decode method_2_code 17 = .ok (.aload 7, 2) := by decide +kernel
theorem own_d3_19 : decode method_2_code 19 = .ok (.iload_n 0, 1) := by decide +kernel
theorem own_d3_20 : decode method_2_code 20 = .ok (.daload, 1) := by decide +kernel
theorem own_d3_21 : decode method_2_code 21 = .ok (.dreturn, 1) := by decide +kernel
set_option maxRecDepth 65536 in
set_option maxHeartbeats 40000000 in
theorem rm_expD_A1 (l : Launch) (Z : State) (a0 : Array Value) (hw : ∀ d ∈ tables_1, d.before a0 Z = true) (ws : List Jvm.Cond) (i : Int32) (f : Int32) (r : Int32) (pz : Int32) (d : UInt64) (a : Addr) (k : ClassId) (vs : List Value) (x : UInt64) (h0 : Heap) (n0 : Nat) (Z0 : n0 ≤ h0.size) (V1 : Arv Z h0 a k .double (6 : Int32) vs (.double (0 : UInt64))) (hi : ¬ i < 0 ∧ i < (6 : Int32)) (hv : vs.getD (i).toNatClampNeg (.double (0 : UInt64)) = (.double x)) :
    MetFree l (⟨"com/example/outpost/outpost/model/DistancesKeepNearerPinLaw", "expD", "(IIIIZD[D)D"⟩ : MethodName) (head1 (Jvm.Cond.code (⟨"com/example/outpost/outpost/model/DistancesKeepNearerPinLaw", "expD", "(IIIIZD[D)D"⟩ : MethodName) method_2_code 9 (some .double) :: ws) ({ frames := 0, cells := 0, slots := 0, locals := 0 } : Room)) (fun aa U => aa = #[(.int i), (.int f), (.int r), (.int pz), (.int (0 : Int32)), (.double d), (.ref a)] ∧ Z.Warmed39 U.vm ∧ U.heap = h0) (fun _ _ _ _ _ => True) (fun _ U ou U' => ∃ v L, ou = .returned v ∧ Q_rm_expD_A1 Z i f r pz d a k vs x h0 n0 v U'.heap L ∧ FrameEnd U ou U' L ({ frames := 0, cells := 0, slots := 0, locals := 0 } : Room).cells ({ frames := 0, cells := 0, slots := 0, locals := 0 } : Room).slots) := by
  refine MetFree.of_bodySF (plainFor_of_name own_pn0) hisR ?_
  intro p e s m args below meth c s₁ Bd hml0 hP hK
  obtain ⟨rfl, hZ, hh⟩ := hP
  have hx := Bd.exec
  have hby := Bd.bytes
  have hml : c.maxLocals = 9 := hml0
  have hown : s.vm.findClass "com/example/outpost/outpost/model/DistancesKeepNearerPinLaw" = some m.cls := findClass_of_methodNamed Bd.named
  have hnm := (name_of_methodNamed Bd.named Bd.method).1
  have X0 : Stand p l e ({ frames := 0, cells := 0, slots := 0, locals := 0 } : Room) s m #[(.int i), (.int f), (.int r), (.int pz), (.int (0 : Int32)), (.double d), (.ref a)] below meth c s₁ [] 0 0 := Stand.of_body Bd
  have e0 : s₁.heap = h0 := by rw [← hh, Bd.state]; rfl
  have N0 := Fr.nil n0
  show own_Go p e below (fun o u L => FrameEnd s o u L ({ frames := 0, cells := 0, slots := 0, locals := 0 } : Room).cells ({ frames := 0, cells := 0, slots := 0, locals := 0 } : Room).slots) (Q_rm_expD_A1 Z i f r pz d a k vs x h0 n0) (s₁.setTop (entryFrame m #[(.int i), (.int f), (.int r), (.int pz), (.int (0 : Int32)), (.double d), (.ref a)] 9))
  rw [own_ef_rm_expD_A1 m i f r pz d a]
  show own_Go _ _ _ _ _ (State.setTop _ (mkF _ 0 #[.val (.int i), .val (.int f), .val (.int r), .val (.int pz), .val (.int (0 : Int32)), .val (.double d), .second, .val (.ref a), .unset] []))
  refine own_iload X0 hx 2 rfl (hb hby own_d3_0) rfl ?_
  refine own_ifYes X0 hx 17 (hb hby own_d3_2) (by decide) (by decide) rfl ?_
  refine own_aload X0 hx 19 rfl (hb hby own_d3_17) rfl rfl ?_
  refine own_iloadN X0 hx 20 rfl (hb hby own_d3_19) rfl ?_
  refine own_ldD X0 hx hZ e0 V1 hi x hv 21 rfl (hb hby own_d3_20) ?_
  refine own_ret X0 (some (.double x)) (fun h => by rw [Bd.returns] at h; cases h) Bd.notSynchronized (by decide) (by decide) ?_ (fun fs hr => own_retD X0 hx Bd.returns (hb hby own_d3_21) hr)
  show Q_rm_expD_A1 Z i f r pz d a k vs x h0 n0 _ s₁.heap _
  rw [e0]
  exact ⟨rfl, N0, rfl⟩
theorem own_ef_rm_expF_A1 (m : MethodId) (i : Int32) (f : Int32) (r : Int32) (pz : Int32) (d : Int32) (a : Addr) : entryFrame m #[(.int i), (.int f), (.int r), (.int pz), (.int (0 : Int32)), (.int d), (.ref a)] 8 = mkF m 0 #[.val (.int i), .val (.int f), .val (.int r), .val (.int pz), .val (.int (0 : Int32)), .val (.int d), .val (.ref a), .unset] [] := by first | (simp [entryFrame, mkF, argsToLocals, Value.category]; done) | rfl
def Q_rm_expF_A1 (Z : State) (i : Int32) (f : Int32) (r : Int32) (pz : Int32) (d : Int32) (a : Addr) (k : ClassId) (vs : List Value) (x : Int32) (h0 : Heap) (n0 : Nat) (v : Option Value) (h : Heap) (L : List Loc) : Prop := v = some (.int x) ∧ Fr n0 L ∧ h = h0
theorem own_d4_0 : decode method_3_code 0 = .ok (.iload 4, 2) := by decide +kernel
theorem own_d4_2 : decode method_3_code 2 = .ok (.ifCond .eq 15, 3) := by decide +kernel
theorem own_d4_17 : decode method_3_code 17 = .ok (.aload 6, 2) := by decide +kernel
theorem own_d4_19 : decode method_3_code 19 = .ok (.iload_n 0, 1) := by decide +kernel
theorem own_d4_20 : decode method_3_code 20 = .ok (.iaload, 1) := by decide +kernel
theorem own_d4_21 : decode method_3_code 21 = .ok (.ireturn, 1) := by decide +kernel
set_option maxRecDepth 65536 in
set_option maxHeartbeats 40000000 in
theorem rm_expF_A1 (l : Launch) (Z : State) (a0 : Array Value) (hw : ∀ d ∈ tables_1, d.before a0 Z = true) (ws : List Jvm.Cond) (i : Int32) (f : Int32) (r : Int32) (pz : Int32) (d : Int32) (a : Addr) (k : ClassId) (vs : List Value) (x : Int32) (h0 : Heap) (n0 : Nat) (Z0 : n0 ≤ h0.size) (V1 : Arv Z h0 a k .int (6 : Int32) vs (.int (0 : Int32))) (hi : ¬ i < 0 ∧ i < (6 : Int32)) (hv : vs.getD (i).toNatClampNeg (.int (0 : Int32)) = (.int x)) :
    MetFree l (⟨"com/example/outpost/outpost/model/DistancesKeepNearerPinLaw", "expF", "(IIIIZI[I)I"⟩ : MethodName) (head1 (Jvm.Cond.code (⟨"com/example/outpost/outpost/model/DistancesKeepNearerPinLaw", "expF", "(IIIIZI[I)I"⟩ : MethodName) method_3_code 8 (some .int) :: ws) ({ frames := 0, cells := 0, slots := 0, locals := 0 } : Room)) (fun aa U => aa = #[(.int i), (.int f), (.int r), (.int pz), (.int (0 : Int32)), (.int d), (.ref a)] ∧ Z.Warmed39 U.vm ∧ U.heap = h0) (fun _ _ _ _ _ => True) (fun _ U ou U' => ∃ v L, ou = .returned v ∧ Q_rm_expF_A1 Z i f r pz d a k vs x h0 n0 v U'.heap L ∧ FrameEnd U ou U' L ({ frames := 0, cells := 0, slots := 0, locals := 0 } : Room).cells ({ frames := 0, cells := 0, slots := 0, locals := 0 } : Room).slots) := by
  refine MetFree.of_bodySF (plainFor_of_name own_pn0) hisR ?_
  intro p e s m args below meth c s₁ Bd hml0 hP hK
  obtain ⟨rfl, hZ, hh⟩ := hP
  have hx := Bd.exec
  have hby := Bd.bytes
  have hml : c.maxLocals = 8 := hml0
  have hown : s.vm.findClass "com/example/outpost/outpost/model/DistancesKeepNearerPinLaw" = some m.cls := findClass_of_methodNamed Bd.named
  have hnm := (name_of_methodNamed Bd.named Bd.method).1
  have X0 : Stand p l e ({ frames := 0, cells := 0, slots := 0, locals := 0 } : Room) s m #[(.int i), (.int f), (.int r), (.int pz), (.int (0 : Int32)), (.int d), (.ref a)] below meth c s₁ [] 0 0 := Stand.of_body Bd
  have e0 : s₁.heap = h0 := by rw [← hh, Bd.state]; rfl
  have N0 := Fr.nil n0
  show own_Go p e below (fun o u L => FrameEnd s o u L ({ frames := 0, cells := 0, slots := 0, locals := 0 } : Room).cells ({ frames := 0, cells := 0, slots := 0, locals := 0 } : Room).slots) (Q_rm_expF_A1 Z i f r pz d a k vs x h0 n0) (s₁.setTop (entryFrame m #[(.int i), (.int f), (.int r), (.int pz), (.int (0 : Int32)), (.int d), (.ref a)] 8))
  rw [own_ef_rm_expF_A1 m i f r pz d a]
  show own_Go _ _ _ _ _ (State.setTop _ (mkF _ 0 #[.val (.int i), .val (.int f), .val (.int r), .val (.int pz), .val (.int (0 : Int32)), .val (.int d), .val (.ref a), .unset] []))
  refine own_iload X0 hx 2 rfl (hb hby own_d4_0) rfl ?_
  refine own_ifYes X0 hx 17 (hb hby own_d4_2) (by decide) (by decide) rfl ?_
  refine own_aload X0 hx 19 rfl (hb hby own_d4_17) rfl rfl ?_
  refine own_iloadN X0 hx 20 rfl (hb hby own_d4_19) rfl ?_
  refine own_ldI X0 hx hZ e0 V1 hi x hv 21 rfl (hb hby own_d4_20) ?_
  refine own_ret X0 (some (.int x)) (fun h => by rw [Bd.returns] at h; cases h) Bd.notSynchronized (by decide) (by decide) ?_ (fun fs hr => own_retI X0 hx Bd.returns (hb hby own_d4_21) hr)
  show Q_rm_expF_A1 Z i f r pz d a k vs x h0 n0 _ s₁.heap _
  rw [e0]
  exact ⟨rfl, N0, rfl⟩
theorem own_ef_rm_expD_A2 (m : MethodId) (i : Int32) (f : Int32) (r : Int32) (pz : Int32) (d : UInt64) (a : Addr) : entryFrame m #[(.int i), (.int f), (.int r), (.int pz), (.int (1 : Int32)), (.double d), (.ref a)] 9 = mkF m 0 #[.val (.int i), .val (.int f), .val (.int r), .val (.int pz), .val (.int (1 : Int32)), .val (.double d), .second, .val (.ref a), .unset] [] := by first | (simp [entryFrame, mkF, argsToLocals, Value.category]; done) | rfl
def Q_rm_expD_A2 (Z : State) (i : Int32) (f : Int32) (r : Int32) (pz : Int32) (d : UInt64) (a : Addr) (k : ClassId) (vs : List Value) (x : UInt64) (h0 : Heap) (n0 : Nat) (v : Option Value) (h : Heap) (L : List Loc) : Prop := v = some (.double x) ∧ Fr n0 L ∧ h = h0
theorem own_d3_5 : decode method_2_code 5 = .ok (.iload_n 0, 1) := by decide +kernel
theorem own_d3_6 : decode method_2_code 6 = .ok (.iload_n 1, 1) := by decide +kernel
theorem own_d3_7 : decode method_2_code 7 = .ok (.if_icmp .lt 10, 3) := by decide +kernel
set_option maxRecDepth 65536 in
set_option maxHeartbeats 40000000 in
theorem rm_expD_A2 (l : Launch) (Z : State) (a0 : Array Value) (hw : ∀ d ∈ tables_1, d.before a0 Z = true) (ws : List Jvm.Cond) (i : Int32) (f : Int32) (r : Int32) (pz : Int32) (d : UInt64) (a : Addr) (k : ClassId) (vs : List Value) (x : UInt64) (h0 : Heap) (n0 : Nat) (Z0 : n0 ≤ h0.size) (V1 : Arv Z h0 a k .double (6 : Int32) vs (.double (0 : UInt64))) (c1 : i < f) (hi : ¬ i < 0 ∧ i < (6 : Int32)) (hv : vs.getD (i).toNatClampNeg (.double (0 : UInt64)) = (.double x)) :
    MetFree l (⟨"com/example/outpost/outpost/model/DistancesKeepNearerPinLaw", "expD", "(IIIIZD[D)D"⟩ : MethodName) (head1 (Jvm.Cond.code (⟨"com/example/outpost/outpost/model/DistancesKeepNearerPinLaw", "expD", "(IIIIZD[D)D"⟩ : MethodName) method_2_code 9 (some .double) :: ws) ({ frames := 0, cells := 0, slots := 0, locals := 0 } : Room)) (fun aa U => aa = #[(.int i), (.int f), (.int r), (.int pz), (.int (1 : Int32)), (.double d), (.ref a)] ∧ Z.Warmed39 U.vm ∧ U.heap = h0) (fun _ _ _ _ _ => True) (fun _ U ou U' => ∃ v L, ou = .returned v ∧ Q_rm_expD_A2 Z i f r pz d a k vs x h0 n0 v U'.heap L ∧ FrameEnd U ou U' L ({ frames := 0, cells := 0, slots := 0, locals := 0 } : Room).cells ({ frames := 0, cells := 0, slots := 0, locals := 0 } : Room).slots) := by
  refine MetFree.of_bodySF (plainFor_of_name own_pn0) hisR ?_
  intro p e s m args below meth c s₁ Bd hml0 hP hK
  obtain ⟨rfl, hZ, hh⟩ := hP
  have hx := Bd.exec
  have hby := Bd.bytes
  have hml : c.maxLocals = 9 := hml0
  have hown : s.vm.findClass "com/example/outpost/outpost/model/DistancesKeepNearerPinLaw" = some m.cls := findClass_of_methodNamed Bd.named
  have hnm := (name_of_methodNamed Bd.named Bd.method).1
  have X0 : Stand p l e ({ frames := 0, cells := 0, slots := 0, locals := 0 } : Room) s m #[(.int i), (.int f), (.int r), (.int pz), (.int (1 : Int32)), (.double d), (.ref a)] below meth c s₁ [] 0 0 := Stand.of_body Bd
  have e0 : s₁.heap = h0 := by rw [← hh, Bd.state]; rfl
  have N0 := Fr.nil n0
  show own_Go p e below (fun o u L => FrameEnd s o u L ({ frames := 0, cells := 0, slots := 0, locals := 0 } : Room).cells ({ frames := 0, cells := 0, slots := 0, locals := 0 } : Room).slots) (Q_rm_expD_A2 Z i f r pz d a k vs x h0 n0) (s₁.setTop (entryFrame m #[(.int i), (.int f), (.int r), (.int pz), (.int (1 : Int32)), (.double d), (.ref a)] 9))
  rw [own_ef_rm_expD_A2 m i f r pz d a]
  show own_Go _ _ _ _ _ (State.setTop _ (mkF _ 0 #[.val (.int i), .val (.int f), .val (.int r), .val (.int pz), .val (.int (1 : Int32)), .val (.double d), .second, .val (.ref a), .unset] []))
  refine own_iload X0 hx 2 rfl (hb hby own_d3_0) rfl ?_
  refine own_ifNo X0 hx 5 rfl (hb hby own_d3_2) (by decide) ?_
  refine own_iloadN X0 hx 6 rfl (hb hby own_d3_5) rfl ?_
  refine own_iloadN X0 hx 7 rfl (hb hby own_d3_6) rfl ?_
  refine own_icmpYes X0 hx 17 (hb hby own_d3_7) (tlt c1).1 (by decide) rfl ?_
  refine own_aload X0 hx 19 rfl (hb hby own_d3_17) rfl rfl ?_
  refine own_iloadN X0 hx 20 rfl (hb hby own_d3_19) rfl ?_
  refine own_ldD X0 hx hZ e0 V1 hi x hv 21 rfl (hb hby own_d3_20) ?_
  refine own_ret X0 (some (.double x)) (fun h => by rw [Bd.returns] at h; cases h) Bd.notSynchronized (by decide) (by decide) ?_ (fun fs hr => own_retD X0 hx Bd.returns (hb hby own_d3_21) hr)
  show Q_rm_expD_A2 Z i f r pz d a k vs x h0 n0 _ s₁.heap _
  rw [e0]
  exact ⟨rfl, N0, rfl⟩
theorem own_ef_rm_expF_A2 (m : MethodId) (i : Int32) (f : Int32) (r : Int32) (pz : Int32) (d : Int32) (a : Addr) : entryFrame m #[(.int i), (.int f), (.int r), (.int pz), (.int (1 : Int32)), (.int d), (.ref a)] 8 = mkF m 0 #[.val (.int i), .val (.int f), .val (.int r), .val (.int pz), .val (.int (1 : Int32)), .val (.int d), .val (.ref a), .unset] [] := by first | (simp [entryFrame, mkF, argsToLocals, Value.category]; done) | rfl
def Q_rm_expF_A2 (Z : State) (i : Int32) (f : Int32) (r : Int32) (pz : Int32) (d : Int32) (a : Addr) (k : ClassId) (vs : List Value) (x : Int32) (h0 : Heap) (n0 : Nat) (v : Option Value) (h : Heap) (L : List Loc) : Prop := v = some (.int x) ∧ Fr n0 L ∧ h = h0
theorem own_d4_5 : decode method_3_code 5 = .ok (.iload_n 0, 1) := by decide +kernel
theorem own_d4_6 : decode method_3_code 6 = .ok (.iload_n 1, 1) := by decide +kernel
theorem own_d4_7 : decode method_3_code 7 = .ok (.if_icmp .lt 10, 3) := by decide +kernel
set_option maxRecDepth 65536 in
set_option maxHeartbeats 40000000 in
theorem rm_expF_A2 (l : Launch) (Z : State) (a0 : Array Value) (hw : ∀ d ∈ tables_1, d.before a0 Z = true) (ws : List Jvm.Cond) (i : Int32) (f : Int32) (r : Int32) (pz : Int32) (d : Int32) (a : Addr) (k : ClassId) (vs : List Value) (x : Int32) (h0 : Heap) (n0 : Nat) (Z0 : n0 ≤ h0.size) (V1 : Arv Z h0 a k .int (6 : Int32) vs (.int (0 : Int32))) (c1 : i < f) (hi : ¬ i < 0 ∧ i < (6 : Int32)) (hv : vs.getD (i).toNatClampNeg (.int (0 : Int32)) = (.int x)) :
    MetFree l (⟨"com/example/outpost/outpost/model/DistancesKeepNearerPinLaw", "expF", "(IIIIZI[I)I"⟩ : MethodName) (head1 (Jvm.Cond.code (⟨"com/example/outpost/outpost/model/DistancesKeepNearerPinLaw", "expF", "(IIIIZI[I)I"⟩ : MethodName) method_3_code 8 (some .int) :: ws) ({ frames := 0, cells := 0, slots := 0, locals := 0 } : Room)) (fun aa U => aa = #[(.int i), (.int f), (.int r), (.int pz), (.int (1 : Int32)), (.int d), (.ref a)] ∧ Z.Warmed39 U.vm ∧ U.heap = h0) (fun _ _ _ _ _ => True) (fun _ U ou U' => ∃ v L, ou = .returned v ∧ Q_rm_expF_A2 Z i f r pz d a k vs x h0 n0 v U'.heap L ∧ FrameEnd U ou U' L ({ frames := 0, cells := 0, slots := 0, locals := 0 } : Room).cells ({ frames := 0, cells := 0, slots := 0, locals := 0 } : Room).slots) := by
  refine MetFree.of_bodySF (plainFor_of_name own_pn0) hisR ?_
  intro p e s m args below meth c s₁ Bd hml0 hP hK
  obtain ⟨rfl, hZ, hh⟩ := hP
  have hx := Bd.exec
  have hby := Bd.bytes
  have hml : c.maxLocals = 8 := hml0
  have hown : s.vm.findClass "com/example/outpost/outpost/model/DistancesKeepNearerPinLaw" = some m.cls := findClass_of_methodNamed Bd.named
  have hnm := (name_of_methodNamed Bd.named Bd.method).1
  have X0 : Stand p l e ({ frames := 0, cells := 0, slots := 0, locals := 0 } : Room) s m #[(.int i), (.int f), (.int r), (.int pz), (.int (1 : Int32)), (.int d), (.ref a)] below meth c s₁ [] 0 0 := Stand.of_body Bd
  have e0 : s₁.heap = h0 := by rw [← hh, Bd.state]; rfl
  have N0 := Fr.nil n0
  show own_Go p e below (fun o u L => FrameEnd s o u L ({ frames := 0, cells := 0, slots := 0, locals := 0 } : Room).cells ({ frames := 0, cells := 0, slots := 0, locals := 0 } : Room).slots) (Q_rm_expF_A2 Z i f r pz d a k vs x h0 n0) (s₁.setTop (entryFrame m #[(.int i), (.int f), (.int r), (.int pz), (.int (1 : Int32)), (.int d), (.ref a)] 8))
  rw [own_ef_rm_expF_A2 m i f r pz d a]
  show own_Go _ _ _ _ _ (State.setTop _ (mkF _ 0 #[.val (.int i), .val (.int f), .val (.int r), .val (.int pz), .val (.int (1 : Int32)), .val (.int d), .val (.ref a), .unset] []))
  refine own_iload X0 hx 2 rfl (hb hby own_d4_0) rfl ?_
  refine own_ifNo X0 hx 5 rfl (hb hby own_d4_2) (by decide) ?_
  refine own_iloadN X0 hx 6 rfl (hb hby own_d4_5) rfl ?_
  refine own_iloadN X0 hx 7 rfl (hb hby own_d4_6) rfl ?_
  refine own_icmpYes X0 hx 17 (hb hby own_d4_7) (tlt c1).1 (by decide) rfl ?_
  refine own_aload X0 hx 19 rfl (hb hby own_d4_17) rfl rfl ?_
  refine own_iloadN X0 hx 20 rfl (hb hby own_d4_19) rfl ?_
  refine own_ldI X0 hx hZ e0 V1 hi x hv 21 rfl (hb hby own_d4_20) ?_
  refine own_ret X0 (some (.int x)) (fun h => by rw [Bd.returns] at h; cases h) Bd.notSynchronized (by decide) (by decide) ?_ (fun fs hr => own_retI X0 hx Bd.returns (hb hby own_d4_21) hr)
  show Q_rm_expF_A2 Z i f r pz d a k vs x h0 n0 _ s₁.heap _
  rw [e0]
  exact ⟨rfl, N0, rfl⟩
theorem own_ef_rm_expD_A3 (m : MethodId) (i : Int32) (f : Int32) (r : Int32) (pz : Int32) (d : UInt64) (a : Addr) : entryFrame m #[(.int i), (.int f), (.int r), (.int pz), (.int (1 : Int32)), (.double d), (.ref a)] 9 = mkF m 0 #[.val (.int i), .val (.int f), .val (.int r), .val (.int pz), .val (.int (1 : Int32)), .val (.double d), .second, .val (.ref a), .unset] [] := by first | (simp [entryFrame, mkF, argsToLocals, Value.category]; done) | rfl
def Q_rm_expD_A3 (Z : State) (i : Int32) (f : Int32) (r : Int32) (pz : Int32) (d : UInt64) (a : Addr) (k : ClassId) (vs : List Value) (x : UInt64) (h0 : Heap) (n0 : Nat) (v : Option Value) (h : Heap) (L : List Loc) : Prop := v = some (.double x) ∧ Fr n0 L ∧ h = h0
theorem own_d3_10 : decode method_2_code 10 = .ok (.iload_n 0, 1) := by decide +kernel
theorem own_d3_11 : decode method_2_code 11 = .ok (.iload_n 1, 1) := by decide +kernel
theorem own_d3_12 : decode method_2_code 12 = .ok (.iload_n 2, 1) := by decide +kernel
theorem own_d3_13 : decode method_2_code 13 = .ok (.iadd, 1) := by decide +kernel
theorem own_d3_14 : decode method_2_code 14 = .ok (.if_icmp .lt 8, 3) := by decide +kernel
set_option maxRecDepth 65536 in
set_option maxHeartbeats 40000000 in
theorem rm_expD_A3 (l : Launch) (Z : State) (a0 : Array Value) (hw : ∀ d ∈ tables_1, d.before a0 Z = true) (ws : List Jvm.Cond) (i : Int32) (f : Int32) (r : Int32) (pz : Int32) (d : UInt64) (a : Addr) (k : ClassId) (vs : List Value) (x : UInt64) (h0 : Heap) (n0 : Nat) (Z0 : n0 ≤ h0.size) (V1 : Arv Z h0 a k .double (6 : Int32) vs (.double (0 : UInt64))) (c1 : ¬ i < f) (c2 : ¬ i < (f + r)) (hi : ¬ i < 0 ∧ i < (6 : Int32)) (hv : vs.getD (i).toNatClampNeg (.double (0 : UInt64)) = (.double x)) :
    MetFree l (⟨"com/example/outpost/outpost/model/DistancesKeepNearerPinLaw", "expD", "(IIIIZD[D)D"⟩ : MethodName) (head1 (Jvm.Cond.code (⟨"com/example/outpost/outpost/model/DistancesKeepNearerPinLaw", "expD", "(IIIIZD[D)D"⟩ : MethodName) method_2_code 9 (some .double) :: ws) ({ frames := 0, cells := 0, slots := 0, locals := 0 } : Room)) (fun aa U => aa = #[(.int i), (.int f), (.int r), (.int pz), (.int (1 : Int32)), (.double d), (.ref a)] ∧ Z.Warmed39 U.vm ∧ U.heap = h0) (fun _ _ _ _ _ => True) (fun _ U ou U' => ∃ v L, ou = .returned v ∧ Q_rm_expD_A3 Z i f r pz d a k vs x h0 n0 v U'.heap L ∧ FrameEnd U ou U' L ({ frames := 0, cells := 0, slots := 0, locals := 0 } : Room).cells ({ frames := 0, cells := 0, slots := 0, locals := 0 } : Room).slots) := by
  refine MetFree.of_bodySF (plainFor_of_name own_pn0) hisR ?_
  intro p e s m args below meth c s₁ Bd hml0 hP hK
  obtain ⟨rfl, hZ, hh⟩ := hP
  have hx := Bd.exec
  have hby := Bd.bytes
  have hml : c.maxLocals = 9 := hml0
  have hown : s.vm.findClass "com/example/outpost/outpost/model/DistancesKeepNearerPinLaw" = some m.cls := findClass_of_methodNamed Bd.named
  have hnm := (name_of_methodNamed Bd.named Bd.method).1
  have X0 : Stand p l e ({ frames := 0, cells := 0, slots := 0, locals := 0 } : Room) s m #[(.int i), (.int f), (.int r), (.int pz), (.int (1 : Int32)), (.double d), (.ref a)] below meth c s₁ [] 0 0 := Stand.of_body Bd
  have e0 : s₁.heap = h0 := by rw [← hh, Bd.state]; rfl
  have N0 := Fr.nil n0
  show own_Go p e below (fun o u L => FrameEnd s o u L ({ frames := 0, cells := 0, slots := 0, locals := 0 } : Room).cells ({ frames := 0, cells := 0, slots := 0, locals := 0 } : Room).slots) (Q_rm_expD_A3 Z i f r pz d a k vs x h0 n0) (s₁.setTop (entryFrame m #[(.int i), (.int f), (.int r), (.int pz), (.int (1 : Int32)), (.double d), (.ref a)] 9))
  rw [own_ef_rm_expD_A3 m i f r pz d a]
  show own_Go _ _ _ _ _ (State.setTop _ (mkF _ 0 #[.val (.int i), .val (.int f), .val (.int r), .val (.int pz), .val (.int (1 : Int32)), .val (.double d), .second, .val (.ref a), .unset] []))
  refine own_iload X0 hx 2 rfl (hb hby own_d3_0) rfl ?_
  refine own_ifNo X0 hx 5 rfl (hb hby own_d3_2) (by decide) ?_
  refine own_iloadN X0 hx 6 rfl (hb hby own_d3_5) rfl ?_
  refine own_iloadN X0 hx 7 rfl (hb hby own_d3_6) rfl ?_
  refine own_icmpNo X0 hx 10 rfl (hb hby own_d3_7) (flt c1).1 ?_
  refine own_iloadN X0 hx 11 rfl (hb hby own_d3_10) rfl ?_
  refine own_iloadN X0 hx 12 rfl (hb hby own_d3_11) rfl ?_
  refine own_iloadN X0 hx 13 rfl (hb hby own_d3_12) rfl ?_
  refine own_iadd X0 hx 14 rfl (hb hby own_d3_13) _ rfl ?_
  refine own_icmpNo X0 hx 17 rfl (hb hby own_d3_14) (flt c2).1 ?_
  refine own_aload X0 hx 19 rfl (hb hby own_d3_17) rfl rfl ?_
  refine own_iloadN X0 hx 20 rfl (hb hby own_d3_19) rfl ?_
  refine own_ldD X0 hx hZ e0 V1 hi x hv 21 rfl (hb hby own_d3_20) ?_
  refine own_ret X0 (some (.double x)) (fun h => by rw [Bd.returns] at h; cases h) Bd.notSynchronized (by decide) (by decide) ?_ (fun fs hr => own_retD X0 hx Bd.returns (hb hby own_d3_21) hr)
  show Q_rm_expD_A3 Z i f r pz d a k vs x h0 n0 _ s₁.heap _
  rw [e0]
  exact ⟨rfl, N0, rfl⟩
theorem own_ef_rm_expF_A3 (m : MethodId) (i : Int32) (f : Int32) (r : Int32) (pz : Int32) (d : Int32) (a : Addr) : entryFrame m #[(.int i), (.int f), (.int r), (.int pz), (.int (1 : Int32)), (.int d), (.ref a)] 8 = mkF m 0 #[.val (.int i), .val (.int f), .val (.int r), .val (.int pz), .val (.int (1 : Int32)), .val (.int d), .val (.ref a), .unset] [] := by first | (simp [entryFrame, mkF, argsToLocals, Value.category]; done) | rfl
def Q_rm_expF_A3 (Z : State) (i : Int32) (f : Int32) (r : Int32) (pz : Int32) (d : Int32) (a : Addr) (k : ClassId) (vs : List Value) (x : Int32) (h0 : Heap) (n0 : Nat) (v : Option Value) (h : Heap) (L : List Loc) : Prop := v = some (.int x) ∧ Fr n0 L ∧ h = h0
theorem own_d4_10 : decode method_3_code 10 = .ok (.iload_n 0, 1) := by decide +kernel
theorem own_d4_11 : decode method_3_code 11 = .ok (.iload_n 1, 1) := by decide +kernel
theorem own_d4_12 : decode method_3_code 12 = .ok (.iload_n 2, 1) := by decide +kernel
theorem own_d4_13 : decode method_3_code 13 = .ok (.iadd, 1) := by decide +kernel
theorem own_d4_14 : decode method_3_code 14 = .ok (.if_icmp .lt 8, 3) := by decide +kernel
set_option maxRecDepth 65536 in
set_option maxHeartbeats 40000000 in
theorem rm_expF_A3 (l : Launch) (Z : State) (a0 : Array Value) (hw : ∀ d ∈ tables_1, d.before a0 Z = true) (ws : List Jvm.Cond) (i : Int32) (f : Int32) (r : Int32) (pz : Int32) (d : Int32) (a : Addr) (k : ClassId) (vs : List Value) (x : Int32) (h0 : Heap) (n0 : Nat) (Z0 : n0 ≤ h0.size) (V1 : Arv Z h0 a k .int (6 : Int32) vs (.int (0 : Int32))) (c1 : ¬ i < f) (c2 : ¬ i < (f + r)) (hi : ¬ i < 0 ∧ i < (6 : Int32)) (hv : vs.getD (i).toNatClampNeg (.int (0 : Int32)) = (.int x)) :
    MetFree l (⟨"com/example/outpost/outpost/model/DistancesKeepNearerPinLaw", "expF", "(IIIIZI[I)I"⟩ : MethodName) (head1 (Jvm.Cond.code (⟨"com/example/outpost/outpost/model/DistancesKeepNearerPinLaw", "expF", "(IIIIZI[I)I"⟩ : MethodName) method_3_code 8 (some .int) :: ws) ({ frames := 0, cells := 0, slots := 0, locals := 0 } : Room)) (fun aa U => aa = #[(.int i), (.int f), (.int r), (.int pz), (.int (1 : Int32)), (.int d), (.ref a)] ∧ Z.Warmed39 U.vm ∧ U.heap = h0) (fun _ _ _ _ _ => True) (fun _ U ou U' => ∃ v L, ou = .returned v ∧ Q_rm_expF_A3 Z i f r pz d a k vs x h0 n0 v U'.heap L ∧ FrameEnd U ou U' L ({ frames := 0, cells := 0, slots := 0, locals := 0 } : Room).cells ({ frames := 0, cells := 0, slots := 0, locals := 0 } : Room).slots) := by
  refine MetFree.of_bodySF (plainFor_of_name own_pn0) hisR ?_
  intro p e s m args below meth c s₁ Bd hml0 hP hK
  obtain ⟨rfl, hZ, hh⟩ := hP
  have hx := Bd.exec
  have hby := Bd.bytes
  have hml : c.maxLocals = 8 := hml0
  have hown : s.vm.findClass "com/example/outpost/outpost/model/DistancesKeepNearerPinLaw" = some m.cls := findClass_of_methodNamed Bd.named
  have hnm := (name_of_methodNamed Bd.named Bd.method).1
  have X0 : Stand p l e ({ frames := 0, cells := 0, slots := 0, locals := 0 } : Room) s m #[(.int i), (.int f), (.int r), (.int pz), (.int (1 : Int32)), (.int d), (.ref a)] below meth c s₁ [] 0 0 := Stand.of_body Bd
  have e0 : s₁.heap = h0 := by rw [← hh, Bd.state]; rfl
  have N0 := Fr.nil n0
  show own_Go p e below (fun o u L => FrameEnd s o u L ({ frames := 0, cells := 0, slots := 0, locals := 0 } : Room).cells ({ frames := 0, cells := 0, slots := 0, locals := 0 } : Room).slots) (Q_rm_expF_A3 Z i f r pz d a k vs x h0 n0) (s₁.setTop (entryFrame m #[(.int i), (.int f), (.int r), (.int pz), (.int (1 : Int32)), (.int d), (.ref a)] 8))
  rw [own_ef_rm_expF_A3 m i f r pz d a]
  show own_Go _ _ _ _ _ (State.setTop _ (mkF _ 0 #[.val (.int i), .val (.int f), .val (.int r), .val (.int pz), .val (.int (1 : Int32)), .val (.int d), .val (.ref a), .unset] []))
  refine own_iload X0 hx 2 rfl (hb hby own_d4_0) rfl ?_
  refine own_ifNo X0 hx 5 rfl (hb hby own_d4_2) (by decide) ?_
  refine own_iloadN X0 hx 6 rfl (hb hby own_d4_5) rfl ?_
  refine own_iloadN X0 hx 7 rfl (hb hby own_d4_6) rfl ?_
  refine own_icmpNo X0 hx 10 rfl (hb hby own_d4_7) (flt c1).1 ?_
  refine own_iloadN X0 hx 11 rfl (hb hby own_d4_10) rfl ?_
  refine own_iloadN X0 hx 12 rfl (hb hby own_d4_11) rfl ?_
  refine own_iloadN X0 hx 13 rfl (hb hby own_d4_12) rfl ?_
  refine own_iadd X0 hx 14 rfl (hb hby own_d4_13) _ rfl ?_
  refine own_icmpNo X0 hx 17 rfl (hb hby own_d4_14) (flt c2).1 ?_
  refine own_aload X0 hx 19 rfl (hb hby own_d4_17) rfl rfl ?_
  refine own_iloadN X0 hx 20 rfl (hb hby own_d4_19) rfl ?_
  refine own_ldI X0 hx hZ e0 V1 hi x hv 21 rfl (hb hby own_d4_20) ?_
  refine own_ret X0 (some (.int x)) (fun h => by rw [Bd.returns] at h; cases h) Bd.notSynchronized (by decide) (by decide) ?_ (fun fs hr => own_retI X0 hx Bd.returns (hb hby own_d4_21) hr)
  show Q_rm_expF_A3 Z i f r pz d a k vs x h0 n0 _ s₁.heap _
  rw [e0]
  exact ⟨rfl, N0, rfl⟩
theorem own_ef_rm_expD_B (m : MethodId) (i : Int32) (f : Int32) (r : Int32) (pz : Int32) (d : UInt64) (a : Addr) : entryFrame m #[(.int i), (.int f), (.int r), (.int pz), (.int (1 : Int32)), (.double d), (.ref a)] 9 = mkF m 0 #[.val (.int i), .val (.int f), .val (.int r), .val (.int pz), .val (.int (1 : Int32)), .val (.double d), .second, .val (.ref a), .unset] [] := by first | (simp [entryFrame, mkF, argsToLocals, Value.category]; done) | rfl
def Q_rm_expD_B (Z : State) (i : Int32) (f : Int32) (r : Int32) (pz : Int32) (d : UInt64) (a : Addr) (k : ClassId) (vs : List Value) (x : UInt64) (h0 : Heap) (n0 : Nat) (v : Option Value) (h : Heap) (L : List Loc) : Prop := v = some (.double x) ∧ Fr n0 L ∧ h = h0
theorem own_d3_22 : decode method_2_code 22 = .ok (.iload_n 0, 1) := by decide +kernel
theorem own_d3_23 : decode method_2_code 23 = .ok (.iload_n 1, 1) := by decide +kernel
theorem own_d3_24 : decode method_2_code 24 = .ok (.isub, 1) := by decide +kernel
theorem own_d3_25 : decode method_2_code 25 = .ok (.istore 8, 2) := by decide +kernel
theorem own_d3_27 : decode method_2_code 27 = .ok (.iload 8, 2) := by decide +kernel
theorem own_d3_29 : decode method_2_code 29 = .ok (.iload_n 3, 1) := by decide +kernel
theorem own_d3_30 : decode method_2_code 30 = .ok (.if_icmp .ge 8, 3) := by decide +kernel
theorem own_d3_33 : decode method_2_code 33 = .ok (.aload 7, 2) := by decide +kernel
theorem own_d3_35 : decode method_2_code 35 = .ok (.iload_n 0, 1) := by decide +kernel
theorem own_d3_36 : decode method_2_code 36 = .ok (.daload, 1) := by decide +kernel
theorem own_d3_37 : decode method_2_code 37 = .ok (.dreturn, 1) := by decide +kernel
set_option maxRecDepth 65536 in
set_option maxHeartbeats 40000000 in
theorem rm_expD_B (l : Launch) (Z : State) (a0 : Array Value) (hw : ∀ d ∈ tables_1, d.before a0 Z = true) (ws : List Jvm.Cond) (i : Int32) (f : Int32) (r : Int32) (pz : Int32) (d : UInt64) (a : Addr) (k : ClassId) (vs : List Value) (x : UInt64) (h0 : Heap) (n0 : Nat) (Z0 : n0 ≤ h0.size) (V1 : Arv Z h0 a k .double (6 : Int32) vs (.double (0 : UInt64))) (c1 : ¬ i < f) (c2 : i < (f + r)) (c3 : (i - f) < pz) (hi : ¬ i < 0 ∧ i < (6 : Int32)) (hv : vs.getD (i).toNatClampNeg (.double (0 : UInt64)) = (.double x)) :
    MetFree l (⟨"com/example/outpost/outpost/model/DistancesKeepNearerPinLaw", "expD", "(IIIIZD[D)D"⟩ : MethodName) (head1 (Jvm.Cond.code (⟨"com/example/outpost/outpost/model/DistancesKeepNearerPinLaw", "expD", "(IIIIZD[D)D"⟩ : MethodName) method_2_code 9 (some .double) :: ws) ({ frames := 0, cells := 0, slots := 0, locals := 0 } : Room)) (fun aa U => aa = #[(.int i), (.int f), (.int r), (.int pz), (.int (1 : Int32)), (.double d), (.ref a)] ∧ Z.Warmed39 U.vm ∧ U.heap = h0) (fun _ _ _ _ _ => True) (fun _ U ou U' => ∃ v L, ou = .returned v ∧ Q_rm_expD_B Z i f r pz d a k vs x h0 n0 v U'.heap L ∧ FrameEnd U ou U' L ({ frames := 0, cells := 0, slots := 0, locals := 0 } : Room).cells ({ frames := 0, cells := 0, slots := 0, locals := 0 } : Room).slots) := by
  refine MetFree.of_bodySF (plainFor_of_name own_pn0) hisR ?_
  intro p e s m args below meth c s₁ Bd hml0 hP hK
  obtain ⟨rfl, hZ, hh⟩ := hP
  have hx := Bd.exec
  have hby := Bd.bytes
  have hml : c.maxLocals = 9 := hml0
  have hown : s.vm.findClass "com/example/outpost/outpost/model/DistancesKeepNearerPinLaw" = some m.cls := findClass_of_methodNamed Bd.named
  have hnm := (name_of_methodNamed Bd.named Bd.method).1
  have X0 : Stand p l e ({ frames := 0, cells := 0, slots := 0, locals := 0 } : Room) s m #[(.int i), (.int f), (.int r), (.int pz), (.int (1 : Int32)), (.double d), (.ref a)] below meth c s₁ [] 0 0 := Stand.of_body Bd
  have e0 : s₁.heap = h0 := by rw [← hh, Bd.state]; rfl
  have N0 := Fr.nil n0
  show own_Go p e below (fun o u L => FrameEnd s o u L ({ frames := 0, cells := 0, slots := 0, locals := 0 } : Room).cells ({ frames := 0, cells := 0, slots := 0, locals := 0 } : Room).slots) (Q_rm_expD_B Z i f r pz d a k vs x h0 n0) (s₁.setTop (entryFrame m #[(.int i), (.int f), (.int r), (.int pz), (.int (1 : Int32)), (.double d), (.ref a)] 9))
  rw [own_ef_rm_expD_B m i f r pz d a]
  show own_Go _ _ _ _ _ (State.setTop _ (mkF _ 0 #[.val (.int i), .val (.int f), .val (.int r), .val (.int pz), .val (.int (1 : Int32)), .val (.double d), .second, .val (.ref a), .unset] []))
  refine own_iload X0 hx 2 rfl (hb hby own_d3_0) rfl ?_
  refine own_ifNo X0 hx 5 rfl (hb hby own_d3_2) (by decide) ?_
  refine own_iloadN X0 hx 6 rfl (hb hby own_d3_5) rfl ?_
  refine own_iloadN X0 hx 7 rfl (hb hby own_d3_6) rfl ?_
  refine own_icmpNo X0 hx 10 rfl (hb hby own_d3_7) (flt c1).1 ?_
  refine own_iloadN X0 hx 11 rfl (hb hby own_d3_10) rfl ?_
  refine own_iloadN X0 hx 12 rfl (hb hby own_d3_11) rfl ?_
  refine own_iloadN X0 hx 13 rfl (hb hby own_d3_12) rfl ?_
  refine own_iadd X0 hx 14 rfl (hb hby own_d3_13) _ rfl ?_
  refine own_icmpYes X0 hx 22 (hb hby own_d3_14) (tlt c2).1 (by decide) rfl ?_
  refine own_iloadN X0 hx 23 rfl (hb hby own_d3_22) rfl ?_
  refine own_iloadN X0 hx 24 rfl (hb hby own_d3_23) rfl ?_
  refine own_isub X0 hx 25 rfl (hb hby own_d3_24) _ rfl ?_
  refine own_istore X0 hx 27 rfl (hb hby own_d3_25) #[.val (.int i), .val (.int f), .val (.int r), .val (.int pz), .val (.int (1 : Int32)), .val (.double d), .second, .val (.ref a), .val (.int (i - f))] rfl ?_
  refine own_iload X0 hx 29 rfl (hb hby own_d3_27) rfl ?_
  refine own_iloadN X0 hx 30 rfl (hb hby own_d3_29) rfl ?_
  refine own_icmpNo X0 hx 33 rfl (hb hby own_d3_30) (tlt c3).2.1 ?_
  refine own_aload X0 hx 35 rfl (hb hby own_d3_33) rfl rfl ?_
  refine own_iloadN X0 hx 36 rfl (hb hby own_d3_35) rfl ?_
  refine own_ldD X0 hx hZ e0 V1 hi x hv 37 rfl (hb hby own_d3_36) ?_
  refine own_ret X0 (some (.double x)) (fun h => by rw [Bd.returns] at h; cases h) Bd.notSynchronized (by decide) (by decide) ?_ (fun fs hr => own_retD X0 hx Bd.returns (hb hby own_d3_37) hr)
  show Q_rm_expD_B Z i f r pz d a k vs x h0 n0 _ s₁.heap _
  rw [e0]
  exact ⟨rfl, N0, rfl⟩
theorem own_ef_rm_expF_B (m : MethodId) (i : Int32) (f : Int32) (r : Int32) (pz : Int32) (d : Int32) (a : Addr) : entryFrame m #[(.int i), (.int f), (.int r), (.int pz), (.int (1 : Int32)), (.int d), (.ref a)] 8 = mkF m 0 #[.val (.int i), .val (.int f), .val (.int r), .val (.int pz), .val (.int (1 : Int32)), .val (.int d), .val (.ref a), .unset] [] := by first | (simp [entryFrame, mkF, argsToLocals, Value.category]; done) | rfl
def Q_rm_expF_B (Z : State) (i : Int32) (f : Int32) (r : Int32) (pz : Int32) (d : Int32) (a : Addr) (k : ClassId) (vs : List Value) (x : Int32) (h0 : Heap) (n0 : Nat) (v : Option Value) (h : Heap) (L : List Loc) : Prop := v = some (.int x) ∧ Fr n0 L ∧ h = h0
theorem own_d4_22 : decode method_3_code 22 = .ok (.iload_n 0, 1) := by decide +kernel
theorem own_d4_23 : decode method_3_code 23 = .ok (.iload_n 1, 1) := by decide +kernel
theorem own_d4_24 : decode method_3_code 24 = .ok (.isub, 1) := by decide +kernel
theorem own_d4_25 : decode method_3_code 25 = .ok (.istore 7, 2) := by decide +kernel
theorem own_d4_27 : decode method_3_code 27 = .ok (.iload 7, 2) := by decide +kernel
theorem own_d4_29 : decode method_3_code 29 = .ok (.iload_n 3, 1) := by decide +kernel
theorem own_d4_30 : decode method_3_code 30 = .ok (.if_icmp .ge 8, 3) := by decide +kernel
theorem own_d4_33 : decode method_3_code 33 = .ok (.aload 6, 2) := by decide +kernel
theorem own_d4_35 : decode method_3_code 35 = .ok (.iload_n 0, 1) := by decide +kernel
theorem own_d4_36 : decode method_3_code 36 = .ok (.iaload, 1) := by decide +kernel
theorem own_d4_37 : decode method_3_code 37 = .ok (.ireturn, 1) := by decide +kernel
set_option maxRecDepth 65536 in
set_option maxHeartbeats 40000000 in
theorem rm_expF_B (l : Launch) (Z : State) (a0 : Array Value) (hw : ∀ d ∈ tables_1, d.before a0 Z = true) (ws : List Jvm.Cond) (i : Int32) (f : Int32) (r : Int32) (pz : Int32) (d : Int32) (a : Addr) (k : ClassId) (vs : List Value) (x : Int32) (h0 : Heap) (n0 : Nat) (Z0 : n0 ≤ h0.size) (V1 : Arv Z h0 a k .int (6 : Int32) vs (.int (0 : Int32))) (c1 : ¬ i < f) (c2 : i < (f + r)) (c3 : (i - f) < pz) (hi : ¬ i < 0 ∧ i < (6 : Int32)) (hv : vs.getD (i).toNatClampNeg (.int (0 : Int32)) = (.int x)) :
    MetFree l (⟨"com/example/outpost/outpost/model/DistancesKeepNearerPinLaw", "expF", "(IIIIZI[I)I"⟩ : MethodName) (head1 (Jvm.Cond.code (⟨"com/example/outpost/outpost/model/DistancesKeepNearerPinLaw", "expF", "(IIIIZI[I)I"⟩ : MethodName) method_3_code 8 (some .int) :: ws) ({ frames := 0, cells := 0, slots := 0, locals := 0 } : Room)) (fun aa U => aa = #[(.int i), (.int f), (.int r), (.int pz), (.int (1 : Int32)), (.int d), (.ref a)] ∧ Z.Warmed39 U.vm ∧ U.heap = h0) (fun _ _ _ _ _ => True) (fun _ U ou U' => ∃ v L, ou = .returned v ∧ Q_rm_expF_B Z i f r pz d a k vs x h0 n0 v U'.heap L ∧ FrameEnd U ou U' L ({ frames := 0, cells := 0, slots := 0, locals := 0 } : Room).cells ({ frames := 0, cells := 0, slots := 0, locals := 0 } : Room).slots) := by
  refine MetFree.of_bodySF (plainFor_of_name own_pn0) hisR ?_
  intro p e s m args below meth c s₁ Bd hml0 hP hK
  obtain ⟨rfl, hZ, hh⟩ := hP
  have hx := Bd.exec
  have hby := Bd.bytes
  have hml : c.maxLocals = 8 := hml0
  have hown : s.vm.findClass "com/example/outpost/outpost/model/DistancesKeepNearerPinLaw" = some m.cls := findClass_of_methodNamed Bd.named
  have hnm := (name_of_methodNamed Bd.named Bd.method).1
  have X0 : Stand p l e ({ frames := 0, cells := 0, slots := 0, locals := 0 } : Room) s m #[(.int i), (.int f), (.int r), (.int pz), (.int (1 : Int32)), (.int d), (.ref a)] below meth c s₁ [] 0 0 := Stand.of_body Bd
  have e0 : s₁.heap = h0 := by rw [← hh, Bd.state]; rfl
  have N0 := Fr.nil n0
  show own_Go p e below (fun o u L => FrameEnd s o u L ({ frames := 0, cells := 0, slots := 0, locals := 0 } : Room).cells ({ frames := 0, cells := 0, slots := 0, locals := 0 } : Room).slots) (Q_rm_expF_B Z i f r pz d a k vs x h0 n0) (s₁.setTop (entryFrame m #[(.int i), (.int f), (.int r), (.int pz), (.int (1 : Int32)), (.int d), (.ref a)] 8))
  rw [own_ef_rm_expF_B m i f r pz d a]
  show own_Go _ _ _ _ _ (State.setTop _ (mkF _ 0 #[.val (.int i), .val (.int f), .val (.int r), .val (.int pz), .val (.int (1 : Int32)), .val (.int d), .val (.ref a), .unset] []))
  refine own_iload X0 hx 2 rfl (hb hby own_d4_0) rfl ?_
  refine own_ifNo X0 hx 5 rfl (hb hby own_d4_2) (by decide) ?_
  refine own_iloadN X0 hx 6 rfl (hb hby own_d4_5) rfl ?_
  refine own_iloadN X0 hx 7 rfl (hb hby own_d4_6) rfl ?_
  refine own_icmpNo X0 hx 10 rfl (hb hby own_d4_7) (flt c1).1 ?_
  refine own_iloadN X0 hx 11 rfl (hb hby own_d4_10) rfl ?_
  refine own_iloadN X0 hx 12 rfl (hb hby own_d4_11) rfl ?_
  refine own_iloadN X0 hx 13 rfl (hb hby own_d4_12) rfl ?_
  refine own_iadd X0 hx 14 rfl (hb hby own_d4_13) _ rfl ?_
  refine own_icmpYes X0 hx 22 (hb hby own_d4_14) (tlt c2).1 (by decide) rfl ?_
  refine own_iloadN X0 hx 23 rfl (hb hby own_d4_22) rfl ?_
  refine own_iloadN X0 hx 24 rfl (hb hby own_d4_23) rfl ?_
  refine own_isub X0 hx 25 rfl (hb hby own_d4_24) _ rfl ?_
  refine own_istore X0 hx 27 rfl (hb hby own_d4_25) #[.val (.int i), .val (.int f), .val (.int r), .val (.int pz), .val (.int (1 : Int32)), .val (.int d), .val (.ref a), .val (.int (i - f))] rfl ?_
  refine own_iload X0 hx 29 rfl (hb hby own_d4_27) rfl ?_
  refine own_iloadN X0 hx 30 rfl (hb hby own_d4_29) rfl ?_
  refine own_icmpNo X0 hx 33 rfl (hb hby own_d4_30) (tlt c3).2.1 ?_
  refine own_aload X0 hx 35 rfl (hb hby own_d4_33) rfl rfl ?_
  refine own_iloadN X0 hx 36 rfl (hb hby own_d4_35) rfl ?_
  refine own_ldI X0 hx hZ e0 V1 hi x hv 37 rfl (hb hby own_d4_36) ?_
  refine own_ret X0 (some (.int x)) (fun h => by rw [Bd.returns] at h; cases h) Bd.notSynchronized (by decide) (by decide) ?_ (fun fs hr => own_retI X0 hx Bd.returns (hb hby own_d4_37) hr)
  show Q_rm_expF_B Z i f r pz d a k vs x h0 n0 _ s₁.heap _
  rw [e0]
  exact ⟨rfl, N0, rfl⟩
theorem own_ef_rm_expD_C (m : MethodId) (i : Int32) (f : Int32) (r : Int32) (pz : Int32) (d : UInt64) (a : Addr) : entryFrame m #[(.int i), (.int f), (.int r), (.int pz), (.int (1 : Int32)), (.double d), (.ref a)] 9 = mkF m 0 #[.val (.int i), .val (.int f), .val (.int r), .val (.int pz), .val (.int (1 : Int32)), .val (.double d), .second, .val (.ref a), .unset] [] := by first | (simp [entryFrame, mkF, argsToLocals, Value.category]; done) | rfl
def Q_rm_expD_C (Z : State) (i : Int32) (f : Int32) (r : Int32) (pz : Int32) (d : UInt64) (a : Addr) (k : ClassId) (vs : List Value) (x : UInt64) (h0 : Heap) (n0 : Nat) (v : Option Value) (h : Heap) (L : List Loc) : Prop := v = some (.double x) ∧ Fr n0 L ∧ h = h0
theorem own_d3_38 : decode method_2_code 38 = .ok (.iload 8, 2) := by decide +kernel
theorem own_d3_40 : decode method_2_code 40 = .ok (.iload_n 3, 1) := by decide +kernel
theorem own_d3_41 : decode method_2_code 41 = .ok (.if_icmp .ne 6, 3) := by decide +kernel
theorem own_d3_44 : decode method_2_code 44 = .ok (.dload 5, 2) := by decide +kernel
theorem own_d3_46 : decode method_2_code 46 = .ok (.dreturn, 1) := by decide +kernel
set_option maxRecDepth 65536 in
set_option maxHeartbeats 40000000 in
theorem rm_expD_C (l : Launch) (Z : State) (a0 : Array Value) (hw : ∀ d ∈ tables_1, d.before a0 Z = true) (ws : List Jvm.Cond) (i : Int32) (f : Int32) (r : Int32) (pz : Int32) (d : UInt64) (a : Addr) (k : ClassId) (vs : List Value) (x : UInt64) (h0 : Heap) (n0 : Nat) (Z0 : n0 ≤ h0.size) (V1 : Arv Z h0 a k .double (6 : Int32) vs (.double (0 : UInt64))) (c1 : ¬ i < f) (c2 : i < (f + r)) (c3 : ¬ (i - f) < pz) (c4 : (i - f) = pz) (hv : d = x) :
    MetFree l (⟨"com/example/outpost/outpost/model/DistancesKeepNearerPinLaw", "expD", "(IIIIZD[D)D"⟩ : MethodName) (head1 (Jvm.Cond.code (⟨"com/example/outpost/outpost/model/DistancesKeepNearerPinLaw", "expD", "(IIIIZD[D)D"⟩ : MethodName) method_2_code 9 (some .double) :: ws) ({ frames := 0, cells := 0, slots := 0, locals := 0 } : Room)) (fun aa U => aa = #[(.int i), (.int f), (.int r), (.int pz), (.int (1 : Int32)), (.double d), (.ref a)] ∧ Z.Warmed39 U.vm ∧ U.heap = h0) (fun _ _ _ _ _ => True) (fun _ U ou U' => ∃ v L, ou = .returned v ∧ Q_rm_expD_C Z i f r pz d a k vs x h0 n0 v U'.heap L ∧ FrameEnd U ou U' L ({ frames := 0, cells := 0, slots := 0, locals := 0 } : Room).cells ({ frames := 0, cells := 0, slots := 0, locals := 0 } : Room).slots) := by
  refine MetFree.of_bodySF (plainFor_of_name own_pn0) hisR ?_
  intro p e s m args below meth c s₁ Bd hml0 hP hK
  obtain ⟨rfl, hZ, hh⟩ := hP
  have hx := Bd.exec
  have hby := Bd.bytes
  have hml : c.maxLocals = 9 := hml0
  have hown : s.vm.findClass "com/example/outpost/outpost/model/DistancesKeepNearerPinLaw" = some m.cls := findClass_of_methodNamed Bd.named
  have hnm := (name_of_methodNamed Bd.named Bd.method).1
  have X0 : Stand p l e ({ frames := 0, cells := 0, slots := 0, locals := 0 } : Room) s m #[(.int i), (.int f), (.int r), (.int pz), (.int (1 : Int32)), (.double d), (.ref a)] below meth c s₁ [] 0 0 := Stand.of_body Bd
  have e0 : s₁.heap = h0 := by rw [← hh, Bd.state]; rfl
  have N0 := Fr.nil n0
  show own_Go p e below (fun o u L => FrameEnd s o u L ({ frames := 0, cells := 0, slots := 0, locals := 0 } : Room).cells ({ frames := 0, cells := 0, slots := 0, locals := 0 } : Room).slots) (Q_rm_expD_C Z i f r pz d a k vs x h0 n0) (s₁.setTop (entryFrame m #[(.int i), (.int f), (.int r), (.int pz), (.int (1 : Int32)), (.double d), (.ref a)] 9))
  rw [own_ef_rm_expD_C m i f r pz d a]
  show own_Go _ _ _ _ _ (State.setTop _ (mkF _ 0 #[.val (.int i), .val (.int f), .val (.int r), .val (.int pz), .val (.int (1 : Int32)), .val (.double d), .second, .val (.ref a), .unset] []))
  refine own_iload X0 hx 2 rfl (hb hby own_d3_0) rfl ?_
  refine own_ifNo X0 hx 5 rfl (hb hby own_d3_2) (by decide) ?_
  refine own_iloadN X0 hx 6 rfl (hb hby own_d3_5) rfl ?_
  refine own_iloadN X0 hx 7 rfl (hb hby own_d3_6) rfl ?_
  refine own_icmpNo X0 hx 10 rfl (hb hby own_d3_7) (flt c1).1 ?_
  refine own_iloadN X0 hx 11 rfl (hb hby own_d3_10) rfl ?_
  refine own_iloadN X0 hx 12 rfl (hb hby own_d3_11) rfl ?_
  refine own_iloadN X0 hx 13 rfl (hb hby own_d3_12) rfl ?_
  refine own_iadd X0 hx 14 rfl (hb hby own_d3_13) _ rfl ?_
  refine own_icmpYes X0 hx 22 (hb hby own_d3_14) (tlt c2).1 (by decide) rfl ?_
  refine own_iloadN X0 hx 23 rfl (hb hby own_d3_22) rfl ?_
  refine own_iloadN X0 hx 24 rfl (hb hby own_d3_23) rfl ?_
  refine own_isub X0 hx 25 rfl (hb hby own_d3_24) _ rfl ?_
  refine own_istore X0 hx 27 rfl (hb hby own_d3_25) #[.val (.int i), .val (.int f), .val (.int r), .val (.int pz), .val (.int (1 : Int32)), .val (.double d), .second, .val (.ref a), .val (.int (i - f))] rfl ?_
  refine own_iload X0 hx 29 rfl (hb hby own_d3_27) rfl ?_
  refine own_iloadN X0 hx 30 rfl (hb hby own_d3_29) rfl ?_
  refine own_icmpYes X0 hx 38 (hb hby own_d3_30) (flt c3).2.1 (by decide) rfl ?_
  refine own_iload X0 hx 40 rfl (hb hby own_d3_38) rfl ?_
  refine own_iloadN X0 hx 41 rfl (hb hby own_d3_40) rfl ?_
  refine own_icmpNo X0 hx 44 rfl (hb hby own_d3_41) (teq c4).2 ?_
  refine own_dload X0 hx 46 rfl (hb hby own_d3_44) rfl ?_
  refine own_ret X0 (some (.double d)) (fun h => by rw [Bd.returns] at h; cases h) Bd.notSynchronized (by decide) (by decide) ?_ (fun fs hr => own_retD X0 hx Bd.returns (hb hby own_d3_46) hr)
  show Q_rm_expD_C Z i f r pz d a k vs x h0 n0 _ s₁.heap _
  rw [e0]
  exact ⟨by rw [hv], N0, rfl⟩
theorem own_ef_rm_expF_C (m : MethodId) (i : Int32) (f : Int32) (r : Int32) (pz : Int32) (d : Int32) (a : Addr) : entryFrame m #[(.int i), (.int f), (.int r), (.int pz), (.int (1 : Int32)), (.int d), (.ref a)] 8 = mkF m 0 #[.val (.int i), .val (.int f), .val (.int r), .val (.int pz), .val (.int (1 : Int32)), .val (.int d), .val (.ref a), .unset] [] := by first | (simp [entryFrame, mkF, argsToLocals, Value.category]; done) | rfl
def Q_rm_expF_C (Z : State) (i : Int32) (f : Int32) (r : Int32) (pz : Int32) (d : Int32) (a : Addr) (k : ClassId) (vs : List Value) (x : Int32) (h0 : Heap) (n0 : Nat) (v : Option Value) (h : Heap) (L : List Loc) : Prop := v = some (.int x) ∧ Fr n0 L ∧ h = h0
theorem own_d4_38 : decode method_3_code 38 = .ok (.iload 7, 2) := by decide +kernel
theorem own_d4_40 : decode method_3_code 40 = .ok (.iload_n 3, 1) := by decide +kernel
theorem own_d4_41 : decode method_3_code 41 = .ok (.if_icmp .ne 6, 3) := by decide +kernel
theorem own_d4_44 : decode method_3_code 44 = .ok (.iload 5, 2) := by decide +kernel
theorem own_d4_46 : decode method_3_code 46 = .ok (.ireturn, 1) := by decide +kernel
set_option maxRecDepth 65536 in
set_option maxHeartbeats 40000000 in
theorem rm_expF_C (l : Launch) (Z : State) (a0 : Array Value) (hw : ∀ d ∈ tables_1, d.before a0 Z = true) (ws : List Jvm.Cond) (i : Int32) (f : Int32) (r : Int32) (pz : Int32) (d : Int32) (a : Addr) (k : ClassId) (vs : List Value) (x : Int32) (h0 : Heap) (n0 : Nat) (Z0 : n0 ≤ h0.size) (V1 : Arv Z h0 a k .int (6 : Int32) vs (.int (0 : Int32))) (c1 : ¬ i < f) (c2 : i < (f + r)) (c3 : ¬ (i - f) < pz) (c4 : (i - f) = pz) (hv : d = x) :
    MetFree l (⟨"com/example/outpost/outpost/model/DistancesKeepNearerPinLaw", "expF", "(IIIIZI[I)I"⟩ : MethodName) (head1 (Jvm.Cond.code (⟨"com/example/outpost/outpost/model/DistancesKeepNearerPinLaw", "expF", "(IIIIZI[I)I"⟩ : MethodName) method_3_code 8 (some .int) :: ws) ({ frames := 0, cells := 0, slots := 0, locals := 0 } : Room)) (fun aa U => aa = #[(.int i), (.int f), (.int r), (.int pz), (.int (1 : Int32)), (.int d), (.ref a)] ∧ Z.Warmed39 U.vm ∧ U.heap = h0) (fun _ _ _ _ _ => True) (fun _ U ou U' => ∃ v L, ou = .returned v ∧ Q_rm_expF_C Z i f r pz d a k vs x h0 n0 v U'.heap L ∧ FrameEnd U ou U' L ({ frames := 0, cells := 0, slots := 0, locals := 0 } : Room).cells ({ frames := 0, cells := 0, slots := 0, locals := 0 } : Room).slots) := by
  refine MetFree.of_bodySF (plainFor_of_name own_pn0) hisR ?_
  intro p e s m args below meth c s₁ Bd hml0 hP hK
  obtain ⟨rfl, hZ, hh⟩ := hP
  have hx := Bd.exec
  have hby := Bd.bytes
  have hml : c.maxLocals = 8 := hml0
  have hown : s.vm.findClass "com/example/outpost/outpost/model/DistancesKeepNearerPinLaw" = some m.cls := findClass_of_methodNamed Bd.named
  have hnm := (name_of_methodNamed Bd.named Bd.method).1
  have X0 : Stand p l e ({ frames := 0, cells := 0, slots := 0, locals := 0 } : Room) s m #[(.int i), (.int f), (.int r), (.int pz), (.int (1 : Int32)), (.int d), (.ref a)] below meth c s₁ [] 0 0 := Stand.of_body Bd
  have e0 : s₁.heap = h0 := by rw [← hh, Bd.state]; rfl
  have N0 := Fr.nil n0
  show own_Go p e below (fun o u L => FrameEnd s o u L ({ frames := 0, cells := 0, slots := 0, locals := 0 } : Room).cells ({ frames := 0, cells := 0, slots := 0, locals := 0 } : Room).slots) (Q_rm_expF_C Z i f r pz d a k vs x h0 n0) (s₁.setTop (entryFrame m #[(.int i), (.int f), (.int r), (.int pz), (.int (1 : Int32)), (.int d), (.ref a)] 8))
  rw [own_ef_rm_expF_C m i f r pz d a]
  show own_Go _ _ _ _ _ (State.setTop _ (mkF _ 0 #[.val (.int i), .val (.int f), .val (.int r), .val (.int pz), .val (.int (1 : Int32)), .val (.int d), .val (.ref a), .unset] []))
  refine own_iload X0 hx 2 rfl (hb hby own_d4_0) rfl ?_
  refine own_ifNo X0 hx 5 rfl (hb hby own_d4_2) (by decide) ?_
  refine own_iloadN X0 hx 6 rfl (hb hby own_d4_5) rfl ?_
  refine own_iloadN X0 hx 7 rfl (hb hby own_d4_6) rfl ?_
  refine own_icmpNo X0 hx 10 rfl (hb hby own_d4_7) (flt c1).1 ?_
  refine own_iloadN X0 hx 11 rfl (hb hby own_d4_10) rfl ?_
  refine own_iloadN X0 hx 12 rfl (hb hby own_d4_11) rfl ?_
  refine own_iloadN X0 hx 13 rfl (hb hby own_d4_12) rfl ?_
  refine own_iadd X0 hx 14 rfl (hb hby own_d4_13) _ rfl ?_
  refine own_icmpYes X0 hx 22 (hb hby own_d4_14) (tlt c2).1 (by decide) rfl ?_
  refine own_iloadN X0 hx 23 rfl (hb hby own_d4_22) rfl ?_
  refine own_iloadN X0 hx 24 rfl (hb hby own_d4_23) rfl ?_
  refine own_isub X0 hx 25 rfl (hb hby own_d4_24) _ rfl ?_
  refine own_istore X0 hx 27 rfl (hb hby own_d4_25) #[.val (.int i), .val (.int f), .val (.int r), .val (.int pz), .val (.int (1 : Int32)), .val (.int d), .val (.ref a), .val (.int (i - f))] rfl ?_
  refine own_iload X0 hx 29 rfl (hb hby own_d4_27) rfl ?_
  refine own_iloadN X0 hx 30 rfl (hb hby own_d4_29) rfl ?_
  refine own_icmpYes X0 hx 38 (hb hby own_d4_30) (flt c3).2.1 (by decide) rfl ?_
  refine own_iload X0 hx 40 rfl (hb hby own_d4_38) rfl ?_
  refine own_iloadN X0 hx 41 rfl (hb hby own_d4_40) rfl ?_
  refine own_icmpNo X0 hx 44 rfl (hb hby own_d4_41) (teq c4).2 ?_
  refine own_iload X0 hx 46 rfl (hb hby own_d4_44) rfl ?_
  refine own_ret X0 (some (.int d)) (fun h => by rw [Bd.returns] at h; cases h) Bd.notSynchronized (by decide) (by decide) ?_ (fun fs hr => own_retI X0 hx Bd.returns (hb hby own_d4_46) hr)
  show Q_rm_expF_C Z i f r pz d a k vs x h0 n0 _ s₁.heap _
  rw [e0]
  exact ⟨by rw [hv], N0, rfl⟩
theorem own_ef_rm_expD_D (m : MethodId) (i : Int32) (f : Int32) (r : Int32) (pz : Int32) (d : UInt64) (a : Addr) : entryFrame m #[(.int i), (.int f), (.int r), (.int pz), (.int (1 : Int32)), (.double d), (.ref a)] 9 = mkF m 0 #[.val (.int i), .val (.int f), .val (.int r), .val (.int pz), .val (.int (1 : Int32)), .val (.double d), .second, .val (.ref a), .unset] [] := by first | (simp [entryFrame, mkF, argsToLocals, Value.category]; done) | rfl
def Q_rm_expD_D (Z : State) (i : Int32) (f : Int32) (r : Int32) (pz : Int32) (d : UInt64) (a : Addr) (k : ClassId) (vs : List Value) (x : UInt64) (h0 : Heap) (n0 : Nat) (v : Option Value) (h : Heap) (L : List Loc) : Prop := v = some (.double x) ∧ Fr n0 L ∧ h = h0
theorem own_d3_47 : decode method_2_code 47 = .ok (.aload 7, 2) := by decide +kernel
theorem own_d3_49 : decode method_2_code 49 = .ok (.iload_n 0, 1) := by decide +kernel
theorem own_d3_50 : decode method_2_code 50 = .ok (.iconst 1, 1) := by decide +kernel
theorem own_d3_51 : decode method_2_code 51 = .ok (.isub, 1) := by decide +kernel
theorem own_d3_52 : decode method_2_code 52 = .ok (.daload, 1) := by decide +kernel
theorem own_d3_53 : decode method_2_code 53 = .ok (.dreturn, 1) := by decide +kernel
set_option maxRecDepth 65536 in
set_option maxHeartbeats 40000000 in
theorem rm_expD_D (l : Launch) (Z : State) (a0 : Array Value) (hw : ∀ d ∈ tables_1, d.before a0 Z = true) (ws : List Jvm.Cond) (i : Int32) (f : Int32) (r : Int32) (pz : Int32) (d : UInt64) (a : Addr) (k : ClassId) (vs : List Value) (x : UInt64) (h0 : Heap) (n0 : Nat) (Z0 : n0 ≤ h0.size) (V1 : Arv Z h0 a k .double (6 : Int32) vs (.double (0 : UInt64))) (c1 : ¬ i < f) (c2 : i < (f + r)) (c3 : ¬ (i - f) < pz) (c4 : ¬ (i - f) = pz) (hi : ¬ (i - (1 : Int32)) < 0 ∧ (i - (1 : Int32)) < (6 : Int32)) (hv : vs.getD ((i - (1 : Int32))).toNatClampNeg (.double (0 : UInt64)) = (.double x)) :
    MetFree l (⟨"com/example/outpost/outpost/model/DistancesKeepNearerPinLaw", "expD", "(IIIIZD[D)D"⟩ : MethodName) (head1 (Jvm.Cond.code (⟨"com/example/outpost/outpost/model/DistancesKeepNearerPinLaw", "expD", "(IIIIZD[D)D"⟩ : MethodName) method_2_code 9 (some .double) :: ws) ({ frames := 0, cells := 0, slots := 0, locals := 0 } : Room)) (fun aa U => aa = #[(.int i), (.int f), (.int r), (.int pz), (.int (1 : Int32)), (.double d), (.ref a)] ∧ Z.Warmed39 U.vm ∧ U.heap = h0) (fun _ _ _ _ _ => True) (fun _ U ou U' => ∃ v L, ou = .returned v ∧ Q_rm_expD_D Z i f r pz d a k vs x h0 n0 v U'.heap L ∧ FrameEnd U ou U' L ({ frames := 0, cells := 0, slots := 0, locals := 0 } : Room).cells ({ frames := 0, cells := 0, slots := 0, locals := 0 } : Room).slots) := by
  refine MetFree.of_bodySF (plainFor_of_name own_pn0) hisR ?_
  intro p e s m args below meth c s₁ Bd hml0 hP hK
  obtain ⟨rfl, hZ, hh⟩ := hP
  have hx := Bd.exec
  have hby := Bd.bytes
  have hml : c.maxLocals = 9 := hml0
  have hown : s.vm.findClass "com/example/outpost/outpost/model/DistancesKeepNearerPinLaw" = some m.cls := findClass_of_methodNamed Bd.named
  have hnm := (name_of_methodNamed Bd.named Bd.method).1
  have X0 : Stand p l e ({ frames := 0, cells := 0, slots := 0, locals := 0 } : Room) s m #[(.int i), (.int f), (.int r), (.int pz), (.int (1 : Int32)), (.double d), (.ref a)] below meth c s₁ [] 0 0 := Stand.of_body Bd
  have e0 : s₁.heap = h0 := by rw [← hh, Bd.state]; rfl
  have N0 := Fr.nil n0
  show own_Go p e below (fun o u L => FrameEnd s o u L ({ frames := 0, cells := 0, slots := 0, locals := 0 } : Room).cells ({ frames := 0, cells := 0, slots := 0, locals := 0 } : Room).slots) (Q_rm_expD_D Z i f r pz d a k vs x h0 n0) (s₁.setTop (entryFrame m #[(.int i), (.int f), (.int r), (.int pz), (.int (1 : Int32)), (.double d), (.ref a)] 9))
  rw [own_ef_rm_expD_D m i f r pz d a]
  show own_Go _ _ _ _ _ (State.setTop _ (mkF _ 0 #[.val (.int i), .val (.int f), .val (.int r), .val (.int pz), .val (.int (1 : Int32)), .val (.double d), .second, .val (.ref a), .unset] []))
  refine own_iload X0 hx 2 rfl (hb hby own_d3_0) rfl ?_
  refine own_ifNo X0 hx 5 rfl (hb hby own_d3_2) (by decide) ?_
  refine own_iloadN X0 hx 6 rfl (hb hby own_d3_5) rfl ?_
  refine own_iloadN X0 hx 7 rfl (hb hby own_d3_6) rfl ?_
  refine own_icmpNo X0 hx 10 rfl (hb hby own_d3_7) (flt c1).1 ?_
  refine own_iloadN X0 hx 11 rfl (hb hby own_d3_10) rfl ?_
  refine own_iloadN X0 hx 12 rfl (hb hby own_d3_11) rfl ?_
  refine own_iloadN X0 hx 13 rfl (hb hby own_d3_12) rfl ?_
  refine own_iadd X0 hx 14 rfl (hb hby own_d3_13) _ rfl ?_
  refine own_icmpYes X0 hx 22 (hb hby own_d3_14) (tlt c2).1 (by decide) rfl ?_
  refine own_iloadN X0 hx 23 rfl (hb hby own_d3_22) rfl ?_
  refine own_iloadN X0 hx 24 rfl (hb hby own_d3_23) rfl ?_
  refine own_isub X0 hx 25 rfl (hb hby own_d3_24) _ rfl ?_
  refine own_istore X0 hx 27 rfl (hb hby own_d3_25) #[.val (.int i), .val (.int f), .val (.int r), .val (.int pz), .val (.int (1 : Int32)), .val (.double d), .second, .val (.ref a), .val (.int (i - f))] rfl ?_
  refine own_iload X0 hx 29 rfl (hb hby own_d3_27) rfl ?_
  refine own_iloadN X0 hx 30 rfl (hb hby own_d3_29) rfl ?_
  refine own_icmpYes X0 hx 38 (hb hby own_d3_30) (flt c3).2.1 (by decide) rfl ?_
  refine own_iload X0 hx 40 rfl (hb hby own_d3_38) rfl ?_
  refine own_iloadN X0 hx 41 rfl (hb hby own_d3_40) rfl ?_
  refine own_icmpYes X0 hx 47 (hb hby own_d3_41) (feq c4).2 (by decide) rfl ?_
  refine own_aload X0 hx 49 rfl (hb hby own_d3_47) rfl rfl ?_
  refine own_iloadN X0 hx 50 rfl (hb hby own_d3_49) rfl ?_
  refine own_iconst X0 hx 51 rfl (hb hby own_d3_50) (1 : Int32) rfl ?_
  refine own_isub X0 hx 52 rfl (hb hby own_d3_51) _ rfl ?_
  refine own_ldD X0 hx hZ e0 V1 hi x hv 53 rfl (hb hby own_d3_52) ?_
  refine own_ret X0 (some (.double x)) (fun h => by rw [Bd.returns] at h; cases h) Bd.notSynchronized (by decide) (by decide) ?_ (fun fs hr => own_retD X0 hx Bd.returns (hb hby own_d3_53) hr)
  show Q_rm_expD_D Z i f r pz d a k vs x h0 n0 _ s₁.heap _
  rw [e0]
  exact ⟨rfl, N0, rfl⟩
theorem own_ef_rm_expF_D (m : MethodId) (i : Int32) (f : Int32) (r : Int32) (pz : Int32) (d : Int32) (a : Addr) : entryFrame m #[(.int i), (.int f), (.int r), (.int pz), (.int (1 : Int32)), (.int d), (.ref a)] 8 = mkF m 0 #[.val (.int i), .val (.int f), .val (.int r), .val (.int pz), .val (.int (1 : Int32)), .val (.int d), .val (.ref a), .unset] [] := by first | (simp [entryFrame, mkF, argsToLocals, Value.category]; done) | rfl
def Q_rm_expF_D (Z : State) (i : Int32) (f : Int32) (r : Int32) (pz : Int32) (d : Int32) (a : Addr) (k : ClassId) (vs : List Value) (x : Int32) (h0 : Heap) (n0 : Nat) (v : Option Value) (h : Heap) (L : List Loc) : Prop := v = some (.int x) ∧ Fr n0 L ∧ h = h0
theorem own_d4_47 : decode method_3_code 47 = .ok (.aload 6, 2) := by decide +kernel
theorem own_d4_49 : decode method_3_code 49 = .ok (.iload_n 0, 1) := by decide +kernel
theorem own_d4_50 : decode method_3_code 50 = .ok (.iconst 1, 1) := by decide +kernel
theorem own_d4_51 : decode method_3_code 51 = .ok (.isub, 1) := by decide +kernel
theorem own_d4_52 : decode method_3_code 52 = .ok (.iaload, 1) := by decide +kernel
theorem own_d4_53 : decode method_3_code 53 = .ok (.ireturn, 1) := by decide +kernel
set_option maxRecDepth 65536 in
set_option maxHeartbeats 40000000 in
theorem rm_expF_D (l : Launch) (Z : State) (a0 : Array Value) (hw : ∀ d ∈ tables_1, d.before a0 Z = true) (ws : List Jvm.Cond) (i : Int32) (f : Int32) (r : Int32) (pz : Int32) (d : Int32) (a : Addr) (k : ClassId) (vs : List Value) (x : Int32) (h0 : Heap) (n0 : Nat) (Z0 : n0 ≤ h0.size) (V1 : Arv Z h0 a k .int (6 : Int32) vs (.int (0 : Int32))) (c1 : ¬ i < f) (c2 : i < (f + r)) (c3 : ¬ (i - f) < pz) (c4 : ¬ (i - f) = pz) (hi : ¬ (i - (1 : Int32)) < 0 ∧ (i - (1 : Int32)) < (6 : Int32)) (hv : vs.getD ((i - (1 : Int32))).toNatClampNeg (.int (0 : Int32)) = (.int x)) :
    MetFree l (⟨"com/example/outpost/outpost/model/DistancesKeepNearerPinLaw", "expF", "(IIIIZI[I)I"⟩ : MethodName) (head1 (Jvm.Cond.code (⟨"com/example/outpost/outpost/model/DistancesKeepNearerPinLaw", "expF", "(IIIIZI[I)I"⟩ : MethodName) method_3_code 8 (some .int) :: ws) ({ frames := 0, cells := 0, slots := 0, locals := 0 } : Room)) (fun aa U => aa = #[(.int i), (.int f), (.int r), (.int pz), (.int (1 : Int32)), (.int d), (.ref a)] ∧ Z.Warmed39 U.vm ∧ U.heap = h0) (fun _ _ _ _ _ => True) (fun _ U ou U' => ∃ v L, ou = .returned v ∧ Q_rm_expF_D Z i f r pz d a k vs x h0 n0 v U'.heap L ∧ FrameEnd U ou U' L ({ frames := 0, cells := 0, slots := 0, locals := 0 } : Room).cells ({ frames := 0, cells := 0, slots := 0, locals := 0 } : Room).slots) := by
  refine MetFree.of_bodySF (plainFor_of_name own_pn0) hisR ?_
  intro p e s m args below meth c s₁ Bd hml0 hP hK
  obtain ⟨rfl, hZ, hh⟩ := hP
  have hx := Bd.exec
  have hby := Bd.bytes
  have hml : c.maxLocals = 8 := hml0
  have hown : s.vm.findClass "com/example/outpost/outpost/model/DistancesKeepNearerPinLaw" = some m.cls := findClass_of_methodNamed Bd.named
  have hnm := (name_of_methodNamed Bd.named Bd.method).1
  have X0 : Stand p l e ({ frames := 0, cells := 0, slots := 0, locals := 0 } : Room) s m #[(.int i), (.int f), (.int r), (.int pz), (.int (1 : Int32)), (.int d), (.ref a)] below meth c s₁ [] 0 0 := Stand.of_body Bd
  have e0 : s₁.heap = h0 := by rw [← hh, Bd.state]; rfl
  have N0 := Fr.nil n0
  show own_Go p e below (fun o u L => FrameEnd s o u L ({ frames := 0, cells := 0, slots := 0, locals := 0 } : Room).cells ({ frames := 0, cells := 0, slots := 0, locals := 0 } : Room).slots) (Q_rm_expF_D Z i f r pz d a k vs x h0 n0) (s₁.setTop (entryFrame m #[(.int i), (.int f), (.int r), (.int pz), (.int (1 : Int32)), (.int d), (.ref a)] 8))
  rw [own_ef_rm_expF_D m i f r pz d a]
  show own_Go _ _ _ _ _ (State.setTop _ (mkF _ 0 #[.val (.int i), .val (.int f), .val (.int r), .val (.int pz), .val (.int (1 : Int32)), .val (.int d), .val (.ref a), .unset] []))
  refine own_iload X0 hx 2 rfl (hb hby own_d4_0) rfl ?_
  refine own_ifNo X0 hx 5 rfl (hb hby own_d4_2) (by decide) ?_
  refine own_iloadN X0 hx 6 rfl (hb hby own_d4_5) rfl ?_
  refine own_iloadN X0 hx 7 rfl (hb hby own_d4_6) rfl ?_
  refine own_icmpNo X0 hx 10 rfl (hb hby own_d4_7) (flt c1).1 ?_
  refine own_iloadN X0 hx 11 rfl (hb hby own_d4_10) rfl ?_
  refine own_iloadN X0 hx 12 rfl (hb hby own_d4_11) rfl ?_
  refine own_iloadN X0 hx 13 rfl (hb hby own_d4_12) rfl ?_
  refine own_iadd X0 hx 14 rfl (hb hby own_d4_13) _ rfl ?_
  refine own_icmpYes X0 hx 22 (hb hby own_d4_14) (tlt c2).1 (by decide) rfl ?_
  refine own_iloadN X0 hx 23 rfl (hb hby own_d4_22) rfl ?_
  refine own_iloadN X0 hx 24 rfl (hb hby own_d4_23) rfl ?_
  refine own_isub X0 hx 25 rfl (hb hby own_d4_24) _ rfl ?_
  refine own_istore X0 hx 27 rfl (hb hby own_d4_25) #[.val (.int i), .val (.int f), .val (.int r), .val (.int pz), .val (.int (1 : Int32)), .val (.int d), .val (.ref a), .val (.int (i - f))] rfl ?_
  refine own_iload X0 hx 29 rfl (hb hby own_d4_27) rfl ?_
  refine own_iloadN X0 hx 30 rfl (hb hby own_d4_29) rfl ?_
  refine own_icmpYes X0 hx 38 (hb hby own_d4_30) (flt c3).2.1 (by decide) rfl ?_
  refine own_iload X0 hx 40 rfl (hb hby own_d4_38) rfl ?_
  refine own_iloadN X0 hx 41 rfl (hb hby own_d4_40) rfl ?_
  refine own_icmpYes X0 hx 47 (hb hby own_d4_41) (feq c4).2 (by decide) rfl ?_
  refine own_aload X0 hx 49 rfl (hb hby own_d4_47) rfl rfl ?_
  refine own_iloadN X0 hx 50 rfl (hb hby own_d4_49) rfl ?_
  refine own_iconst X0 hx 51 rfl (hb hby own_d4_50) (1 : Int32) rfl ?_
  refine own_isub X0 hx 52 rfl (hb hby own_d4_51) _ rfl ?_
  refine own_ldI X0 hx hZ e0 V1 hi x hv 53 rfl (hb hby own_d4_52) ?_
  refine own_ret X0 (some (.int x)) (fun h => by rw [Bd.returns] at h; cases h) Bd.notSynchronized (by decide) (by decide) ?_ (fun fs hr => own_retI X0 hx Bd.returns (hb hby own_d4_53) hr)
  show Q_rm_expF_D Z i f r pz d a k vs x h0 n0 _ s₁.heap _
  rw [e0]
  exact ⟨rfl, N0, rfl⟩
theorem own_ef_rm_same_A1 (m : MethodId) (i : Int32) (f : Int32) (r : Int32) (pz : Int32) (d : UInt64) (g : Int32) (a : Addr) (b : Addr) (u : Addr) (w : Addr) : entryFrame m #[(.int i), (.int f), (.int r), (.int pz), (.int (0 : Int32)), (.double d), (.int g), (.ref a), (.ref b), (.ref u), (.ref w)] 12 = mkF m 0 #[.val (.int i), .val (.int f), .val (.int r), .val (.int pz), .val (.int (0 : Int32)), .val (.double d), .second, .val (.int g), .val (.ref a), .val (.ref b), .val (.ref u), .val (.ref w)] [] := by first | (simp [entryFrame, mkF, argsToLocals, Value.category]; done) | rfl
def Q_rm_same_A1 (Z : State) (i : Int32) (f : Int32) (r : Int32) (pz : Int32) (d : UInt64) (g : Int32) (a : Addr) (b : Addr) (u : Addr) (w : Addr) (k1 : ClassId) (k2 : ClassId) (k3 : ClassId) (k4 : ClassId) (v1 : List Value) (v2 : List Value) (v3 : List Value) (v4 : List Value) (x : UInt64) (y : Int32) (h0 : Heap) (n0 : Nat) (v : Option Value) (h : Heap) (L : List Loc) : Prop := v = some (.int (1 : Int32)) ∧ Fr n0 L ∧ h = h0
theorem own_d2_0 : decode method_4_code 0 = .ok (.aload 10, 2) := by decide +kernel
theorem own_d2_2 : decode method_4_code 2 = .ok (.iload_n 0, 1) := by decide +kernel
theorem own_d2_3 : decode method_4_code 3 = .ok (.daload, 1) := by decide +kernel
theorem own_d2_4 : decode method_4_code 4 = .ok (.iload_n 0, 1) := by decide +kernel
theorem own_d2_5 : decode method_4_code 5 = .ok (.iload_n 1, 1) := by decide +kernel
theorem own_d2_6 : decode method_4_code 6 = .ok (.iload_n 2, 1) := by decide +kernel
theorem own_d2_7 : decode method_4_code 7 = .ok (.iload_n 3, 1) := by decide +kernel
theorem own_d2_8 : decode method_4_code 8 = .ok (.iload 4, 2) := by decide +kernel
theorem own_d2_10 : decode method_4_code 10 = .ok (.dload 5, 2) := by decide +kernel
theorem own_d2_12 : decode method_4_code 12 = .ok (.aload 8, 2) := by decide +kernel
theorem own_d2_14 : decode method_4_code 14 = .ok (.invokestatic 7, 3) := by decide +kernel
theorem own_pd0 : parseMethodDescriptor "(IIIIZD[D)D" = some ⟨[.int, .int, .int, .int, .boolean, .double, (.array .double)], some .double⟩ := by decide +kernel
theorem own_d2_17 : decode method_4_code 17 = .ok (.dcmp .l, 1) := by decide +kernel
theorem own_d2_18 : decode method_4_code 18 = .ok (.ifCond .ne 27, 3) := by decide +kernel
theorem own_d2_21 : decode method_4_code 21 = .ok (.aload 11, 2) := by decide +kernel
theorem own_d2_23 : decode method_4_code 23 = .ok (.iload_n 0, 1) := by decide +kernel
theorem own_d2_24 : decode method_4_code 24 = .ok (.iaload, 1) := by decide +kernel
theorem own_d2_25 : decode method_4_code 25 = .ok (.iload_n 0, 1) := by decide +kernel
theorem own_d2_26 : decode method_4_code 26 = .ok (.iload_n 1, 1) := by decide +kernel
theorem own_d2_27 : decode method_4_code 27 = .ok (.iload_n 2, 1) := by decide +kernel
theorem own_d2_28 : decode method_4_code 28 = .ok (.iload_n 3, 1) := by decide +kernel
theorem own_d2_29 : decode method_4_code 29 = .ok (.iload 4, 2) := by decide +kernel
theorem own_d2_31 : decode method_4_code 31 = .ok (.iload 7, 2) := by decide +kernel
theorem own_d2_33 : decode method_4_code 33 = .ok (.aload 9, 2) := by decide +kernel
theorem own_d2_35 : decode method_4_code 35 = .ok (.invokestatic 13, 3) := by decide +kernel
theorem own_pd1 : parseMethodDescriptor "(IIIIZI[I)I" = some ⟨[.int, .int, .int, .int, .boolean, .int, (.array .int)], some .int⟩ := by decide +kernel
theorem own_d2_38 : decode method_4_code 38 = .ok (.if_icmp .ne 7, 3) := by decide +kernel
theorem own_d2_41 : decode method_4_code 41 = .ok (.iconst 1, 1) := by decide +kernel
theorem own_d2_42 : decode method_4_code 42 = .ok (.goto 4, 3) := by decide +kernel
theorem own_d2_46 : decode method_4_code 46 = .ok (.ireturn, 1) := by decide +kernel
set_option maxRecDepth 65536 in
set_option maxHeartbeats 40000000 in
theorem rm_same_A1 (l : Launch) (Z : State) (a0 : Array Value) (hw : ∀ d ∈ tables_1, d.before a0 Z = true) (ws : List Jvm.Cond) (i : Int32) (f : Int32) (r : Int32) (pz : Int32) (d : UInt64) (g : Int32) (a : Addr) (b : Addr) (u : Addr) (w : Addr) (k1 : ClassId) (k2 : ClassId) (k3 : ClassId) (k4 : ClassId) (v1 : List Value) (v2 : List Value) (v3 : List Value) (v4 : List Value) (x : UInt64) (y : Int32) (h0 : Heap) (n0 : Nat) (Z0 : n0 ≤ h0.size) (V1 : Arv Z h0 a k1 .double (6 : Int32) v1 (.double (0 : UInt64))) (V2 : Arv Z h0 b k2 .int (6 : Int32) v2 (.int (0 : Int32))) (V3 : Arv Z h0 u k3 .double (6 : Int32) v3 (.double (0 : UInt64))) (V4 : Arv Z h0 w k4 .int (6 : Int32) v4 (.int (0 : Int32))) (hj : ¬ i < 0 ∧ i < (6 : Int32)) (hv1 : v1.getD (i).toNatClampNeg (.double (0 : UInt64)) = (.double x)) (hv2 : v2.getD (i).toNatClampNeg (.int (0 : Int32)) = (.int y)) (hi : ¬ i < 0 ∧ i < (6 : Int32)) (hv3 : v3.getD i.toNatClampNeg (.double (0 : UInt64)) = (.double x)) (hv4 : v4.getD i.toNatClampNeg (.int (0 : Int32)) = (.int y)) (hc : cmpValue (FP.dcmp x x) .l = 0) :
    MetFree l (⟨"com/example/outpost/outpost/model/DistancesKeepNearerPinLaw", "same", "(IIIIZDI[D[I[D[I)Z"⟩ : MethodName) (head1 (Jvm.Cond.code (⟨"com/example/outpost/outpost/model/DistancesKeepNearerPinLaw", "same", "(IIIIZDI[D[I[D[I)Z"⟩ : MethodName) method_4_code 12 (some .boolean) :: ws) ({ frames := 1, cells := 0, slots := 0, locals := 24 } : Room)) (fun aa U => aa = #[(.int i), (.int f), (.int r), (.int pz), (.int (0 : Int32)), (.double d), (.int g), (.ref a), (.ref b), (.ref u), (.ref w)] ∧ Z.Warmed39 U.vm ∧ U.heap = h0) (fun _ _ _ _ _ => True) (fun _ U ou U' => ∃ v L, ou = .returned v ∧ Q_rm_same_A1 Z i f r pz d g a b u w k1 k2 k3 k4 v1 v2 v3 v4 x y h0 n0 v U'.heap L ∧ FrameEnd U ou U' L ({ frames := 1, cells := 0, slots := 0, locals := 24 } : Room).cells ({ frames := 1, cells := 0, slots := 0, locals := 24 } : Room).slots) := by
  refine MetFree.of_bodySF (plainFor_of_name own_pn0) hisR ?_
  intro p e s m args below meth c s₁ Bd hml0 hP hK
  obtain ⟨rfl, hZ, hh⟩ := hP
  have hx := Bd.exec
  have hby := Bd.bytes
  have hml : c.maxLocals = 12 := hml0
  have hown : s.vm.findClass "com/example/outpost/outpost/model/DistancesKeepNearerPinLaw" = some m.cls := findClass_of_methodNamed Bd.named
  have hnm := (name_of_methodNamed Bd.named Bd.method).1
  have X0 : Stand p l e ({ frames := 1, cells := 0, slots := 0, locals := 24 } : Room) s m #[(.int i), (.int f), (.int r), (.int pz), (.int (0 : Int32)), (.double d), (.int g), (.ref a), (.ref b), (.ref u), (.ref w)] below meth c s₁ [] 0 0 := Stand.of_body Bd
  have e0 : s₁.heap = h0 := by rw [← hh, Bd.state]; rfl
  have N0 := Fr.nil n0
  show own_Go p e below (fun o u L => FrameEnd s o u L ({ frames := 1, cells := 0, slots := 0, locals := 24 } : Room).cells ({ frames := 1, cells := 0, slots := 0, locals := 24 } : Room).slots) (Q_rm_same_A1 Z i f r pz d g a b u w k1 k2 k3 k4 v1 v2 v3 v4 x y h0 n0) (s₁.setTop (entryFrame m #[(.int i), (.int f), (.int r), (.int pz), (.int (0 : Int32)), (.double d), (.int g), (.ref a), (.ref b), (.ref u), (.ref w)] 12))
  rw [own_ef_rm_same_A1 m i f r pz d g a b u w]
  show own_Go _ _ _ _ _ (State.setTop _ (mkF _ 0 #[.val (.int i), .val (.int f), .val (.int r), .val (.int pz), .val (.int (0 : Int32)), .val (.double d), .second, .val (.int g), .val (.ref a), .val (.ref b), .val (.ref u), .val (.ref w)] []))
  refine own_aload X0 hx 2 rfl (hb hby own_d2_0) rfl rfl ?_
  refine own_iloadN X0 hx 3 rfl (hb hby own_d2_2) rfl ?_
  refine own_ldD X0 hx hZ e0 V3 hi x hv3 4 rfl (hb hby own_d2_3) ?_
  refine own_iloadN X0 hx 5 rfl (hb hby own_d2_4) rfl ?_
  refine own_iloadN X0 hx 6 rfl (hb hby own_d2_5) rfl ?_
  refine own_iloadN X0 hx 7 rfl (hb hby own_d2_6) rfl ?_
  refine own_iloadN X0 hx 8 rfl (hb hby own_d2_7) rfl ?_
  refine own_iload X0 hx 10 rfl (hb hby own_d2_8) rfl ?_
  refine own_dload X0 hx 12 rfl (hb hby own_d2_10) rfl ?_
  refine own_aload X0 hx 14 rfl (hb hby own_d2_12) rfl rfl ?_
  refine own_callS X0 hx hZ (y := (⟨"com/example/outpost/outpost/model/DistancesKeepNearerPinLaw", "expD", "(IIIIZD[D)D"⟩ : MethodName)) hown (own_hw hw 17 rfl) (own_hw hw 18 rfl) (by decide) (rm_expD_A1 l Z a0 hw [] i f r pz d a k1 v1 x h0 n0 Z0 V1 hj hv1) (own_hw hw 19 rfl) (own_hw hw 15 rfl) (by decide) e0 (by rw [hml]; rfl) [(.int i), (.int f), (.int r), (.int pz), (.int (0 : Int32)), (.double d), (.ref a)] 2 (by decide) (Nat.le_of_eq rfl) (by decide) (by decide) (lenOf own_pd0 rfl) rfl rfl 17 rfl (hb hby own_d2_14) fun v101 T101 Lc101 X101 hQ101 => ?_
  obtain ⟨rfl, Nq101, e101⟩ := hQ101
  have N102 := Fr.app N0 Nq101
  show own_Go _ _ _ _ _ (State.setTop _ (mkF _ 17 _ [(.double x), (.double x)]))
  refine own_dcmp X101 hx 18 rfl (hb hby own_d2_17) (0 : Int32) hc ?_
  refine own_ifNo X101 hx 21 rfl (hb hby own_d2_18) (by decide) ?_
  refine own_aload X101 hx 23 rfl (hb hby own_d2_21) rfl rfl ?_
  refine own_iloadN X101 hx 24 rfl (hb hby own_d2_23) rfl ?_
  refine own_ldI X101 hx hZ e101 V4 hi y hv4 25 rfl (hb hby own_d2_24) ?_
  refine own_iloadN X101 hx 26 rfl (hb hby own_d2_25) rfl ?_
  refine own_iloadN X101 hx 27 rfl (hb hby own_d2_26) rfl ?_
  refine own_iloadN X101 hx 28 rfl (hb hby own_d2_27) rfl ?_
  refine own_iloadN X101 hx 29 rfl (hb hby own_d2_28) rfl ?_
  refine own_iload X101 hx 31 rfl (hb hby own_d2_29) rfl ?_
  refine own_iload X101 hx 33 rfl (hb hby own_d2_31) rfl ?_
  refine own_aload X101 hx 35 rfl (hb hby own_d2_33) rfl rfl ?_
  refine own_callS X101 hx hZ (y := (⟨"com/example/outpost/outpost/model/DistancesKeepNearerPinLaw", "expF", "(IIIIZI[I)I"⟩ : MethodName)) hown (own_hw hw 20 rfl) (own_hw hw 21 rfl) (by decide) (rm_expF_A1 l Z a0 hw [] i f r pz g b k2 v2 y h0 n0 Z0 V2 hj hv2) (own_hw hw 22 rfl) (own_hw hw 15 rfl) (by decide) e101 (by rw [hml]; rfl) [(.int i), (.int f), (.int r), (.int pz), (.int (0 : Int32)), (.int g), (.ref b)] 1 (by decide) (Nat.le_of_eq rfl) (by decide) (by decide) (lenOf own_pd1 rfl) rfl rfl 38 rfl (hb hby own_d2_35) fun v103 T103 Lc103 X103 hQ103 => ?_
  obtain ⟨rfl, Nq103, e103⟩ := hQ103
  have N104 := Fr.app N102 Nq103
  show own_Go _ _ _ _ _ (State.setTop _ (mkF _ 38 _ [(.int y), (.int y)]))
  refine own_icmpNo X103 hx 41 rfl (hb hby own_d2_38) (teq rfl).2 ?_
  refine own_iconst X103 hx 42 rfl (hb hby own_d2_41) (1 : Int32) rfl ?_
  refine own_goto X103 hx 46 (hb hby own_d2_42) (by decide) rfl ?_
  refine own_ret X103 (some (.int (1 : Int32))) (fun h => by rw [Bd.returns] at h; cases h) Bd.notSynchronized (by decide) (by decide) ?_ (fun fs hr => retN X103 hx (t := .boolean) Bd.returns (by simp) (hb hby own_d2_46) hr)
  show Q_rm_same_A1 Z i f r pz d g a b u w k1 k2 k3 k4 v1 v2 v3 v4 x y h0 n0 _ T103.heap _
  rw [e103]
  exact ⟨rfl, N104, rfl⟩
theorem own_ef_rm_same_A2 (m : MethodId) (i : Int32) (f : Int32) (r : Int32) (pz : Int32) (d : UInt64) (g : Int32) (a : Addr) (b : Addr) (u : Addr) (w : Addr) : entryFrame m #[(.int i), (.int f), (.int r), (.int pz), (.int (1 : Int32)), (.double d), (.int g), (.ref a), (.ref b), (.ref u), (.ref w)] 12 = mkF m 0 #[.val (.int i), .val (.int f), .val (.int r), .val (.int pz), .val (.int (1 : Int32)), .val (.double d), .second, .val (.int g), .val (.ref a), .val (.ref b), .val (.ref u), .val (.ref w)] [] := by first | (simp [entryFrame, mkF, argsToLocals, Value.category]; done) | rfl
def Q_rm_same_A2 (Z : State) (i : Int32) (f : Int32) (r : Int32) (pz : Int32) (d : UInt64) (g : Int32) (a : Addr) (b : Addr) (u : Addr) (w : Addr) (k1 : ClassId) (k2 : ClassId) (k3 : ClassId) (k4 : ClassId) (v1 : List Value) (v2 : List Value) (v3 : List Value) (v4 : List Value) (x : UInt64) (y : Int32) (h0 : Heap) (n0 : Nat) (v : Option Value) (h : Heap) (L : List Loc) : Prop := v = some (.int (1 : Int32)) ∧ Fr n0 L ∧ h = h0
set_option maxRecDepth 65536 in
set_option maxHeartbeats 40000000 in
theorem rm_same_A2 (l : Launch) (Z : State) (a0 : Array Value) (hw : ∀ d ∈ tables_1, d.before a0 Z = true) (ws : List Jvm.Cond) (i : Int32) (f : Int32) (r : Int32) (pz : Int32) (d : UInt64) (g : Int32) (a : Addr) (b : Addr) (u : Addr) (w : Addr) (k1 : ClassId) (k2 : ClassId) (k3 : ClassId) (k4 : ClassId) (v1 : List Value) (v2 : List Value) (v3 : List Value) (v4 : List Value) (x : UInt64) (y : Int32) (h0 : Heap) (n0 : Nat) (Z0 : n0 ≤ h0.size) (V1 : Arv Z h0 a k1 .double (6 : Int32) v1 (.double (0 : UInt64))) (V2 : Arv Z h0 b k2 .int (6 : Int32) v2 (.int (0 : Int32))) (V3 : Arv Z h0 u k3 .double (6 : Int32) v3 (.double (0 : UInt64))) (V4 : Arv Z h0 w k4 .int (6 : Int32) v4 (.int (0 : Int32))) (c1 : i < f) (hj : ¬ i < 0 ∧ i < (6 : Int32)) (hv1 : v1.getD (i).toNatClampNeg (.double (0 : UInt64)) = (.double x)) (hv2 : v2.getD (i).toNatClampNeg (.int (0 : Int32)) = (.int y)) (hi : ¬ i < 0 ∧ i < (6 : Int32)) (hv3 : v3.getD i.toNatClampNeg (.double (0 : UInt64)) = (.double x)) (hv4 : v4.getD i.toNatClampNeg (.int (0 : Int32)) = (.int y)) (hc : cmpValue (FP.dcmp x x) .l = 0) :
    MetFree l (⟨"com/example/outpost/outpost/model/DistancesKeepNearerPinLaw", "same", "(IIIIZDI[D[I[D[I)Z"⟩ : MethodName) (head1 (Jvm.Cond.code (⟨"com/example/outpost/outpost/model/DistancesKeepNearerPinLaw", "same", "(IIIIZDI[D[I[D[I)Z"⟩ : MethodName) method_4_code 12 (some .boolean) :: ws) ({ frames := 1, cells := 0, slots := 0, locals := 24 } : Room)) (fun aa U => aa = #[(.int i), (.int f), (.int r), (.int pz), (.int (1 : Int32)), (.double d), (.int g), (.ref a), (.ref b), (.ref u), (.ref w)] ∧ Z.Warmed39 U.vm ∧ U.heap = h0) (fun _ _ _ _ _ => True) (fun _ U ou U' => ∃ v L, ou = .returned v ∧ Q_rm_same_A2 Z i f r pz d g a b u w k1 k2 k3 k4 v1 v2 v3 v4 x y h0 n0 v U'.heap L ∧ FrameEnd U ou U' L ({ frames := 1, cells := 0, slots := 0, locals := 24 } : Room).cells ({ frames := 1, cells := 0, slots := 0, locals := 24 } : Room).slots) := by
  refine MetFree.of_bodySF (plainFor_of_name own_pn0) hisR ?_
  intro p e s m args below meth c s₁ Bd hml0 hP hK
  obtain ⟨rfl, hZ, hh⟩ := hP
  have hx := Bd.exec
  have hby := Bd.bytes
  have hml : c.maxLocals = 12 := hml0
  have hown : s.vm.findClass "com/example/outpost/outpost/model/DistancesKeepNearerPinLaw" = some m.cls := findClass_of_methodNamed Bd.named
  have hnm := (name_of_methodNamed Bd.named Bd.method).1
  have X0 : Stand p l e ({ frames := 1, cells := 0, slots := 0, locals := 24 } : Room) s m #[(.int i), (.int f), (.int r), (.int pz), (.int (1 : Int32)), (.double d), (.int g), (.ref a), (.ref b), (.ref u), (.ref w)] below meth c s₁ [] 0 0 := Stand.of_body Bd
  have e0 : s₁.heap = h0 := by rw [← hh, Bd.state]; rfl
  have N0 := Fr.nil n0
  show own_Go p e below (fun o u L => FrameEnd s o u L ({ frames := 1, cells := 0, slots := 0, locals := 24 } : Room).cells ({ frames := 1, cells := 0, slots := 0, locals := 24 } : Room).slots) (Q_rm_same_A2 Z i f r pz d g a b u w k1 k2 k3 k4 v1 v2 v3 v4 x y h0 n0) (s₁.setTop (entryFrame m #[(.int i), (.int f), (.int r), (.int pz), (.int (1 : Int32)), (.double d), (.int g), (.ref a), (.ref b), (.ref u), (.ref w)] 12))
  rw [own_ef_rm_same_A2 m i f r pz d g a b u w]
  show own_Go _ _ _ _ _ (State.setTop _ (mkF _ 0 #[.val (.int i), .val (.int f), .val (.int r), .val (.int pz), .val (.int (1 : Int32)), .val (.double d), .second, .val (.int g), .val (.ref a), .val (.ref b), .val (.ref u), .val (.ref w)] []))
  refine own_aload X0 hx 2 rfl (hb hby own_d2_0) rfl rfl ?_
  refine own_iloadN X0 hx 3 rfl (hb hby own_d2_2) rfl ?_
  refine own_ldD X0 hx hZ e0 V3 hi x hv3 4 rfl (hb hby own_d2_3) ?_
  refine own_iloadN X0 hx 5 rfl (hb hby own_d2_4) rfl ?_
  refine own_iloadN X0 hx 6 rfl (hb hby own_d2_5) rfl ?_
  refine own_iloadN X0 hx 7 rfl (hb hby own_d2_6) rfl ?_
  refine own_iloadN X0 hx 8 rfl (hb hby own_d2_7) rfl ?_
  refine own_iload X0 hx 10 rfl (hb hby own_d2_8) rfl ?_
  refine own_dload X0 hx 12 rfl (hb hby own_d2_10) rfl ?_
  refine own_aload X0 hx 14 rfl (hb hby own_d2_12) rfl rfl ?_
  refine own_callS X0 hx hZ (y := (⟨"com/example/outpost/outpost/model/DistancesKeepNearerPinLaw", "expD", "(IIIIZD[D)D"⟩ : MethodName)) hown (own_hw hw 17 rfl) (own_hw hw 18 rfl) (by decide) (rm_expD_A2 l Z a0 hw [] i f r pz d a k1 v1 x h0 n0 Z0 V1 c1 hj hv1) (own_hw hw 19 rfl) (own_hw hw 15 rfl) (by decide) e0 (by rw [hml]; rfl) [(.int i), (.int f), (.int r), (.int pz), (.int (1 : Int32)), (.double d), (.ref a)] 2 (by decide) (Nat.le_of_eq rfl) (by decide) (by decide) (lenOf own_pd0 rfl) rfl rfl 17 rfl (hb hby own_d2_14) fun v105 T105 Lc105 X105 hQ105 => ?_
  obtain ⟨rfl, Nq105, e105⟩ := hQ105
  have N106 := Fr.app N0 Nq105
  show own_Go _ _ _ _ _ (State.setTop _ (mkF _ 17 _ [(.double x), (.double x)]))
  refine own_dcmp X105 hx 18 rfl (hb hby own_d2_17) (0 : Int32) hc ?_
  refine own_ifNo X105 hx 21 rfl (hb hby own_d2_18) (by decide) ?_
  refine own_aload X105 hx 23 rfl (hb hby own_d2_21) rfl rfl ?_
  refine own_iloadN X105 hx 24 rfl (hb hby own_d2_23) rfl ?_
  refine own_ldI X105 hx hZ e105 V4 hi y hv4 25 rfl (hb hby own_d2_24) ?_
  refine own_iloadN X105 hx 26 rfl (hb hby own_d2_25) rfl ?_
  refine own_iloadN X105 hx 27 rfl (hb hby own_d2_26) rfl ?_
  refine own_iloadN X105 hx 28 rfl (hb hby own_d2_27) rfl ?_
  refine own_iloadN X105 hx 29 rfl (hb hby own_d2_28) rfl ?_
  refine own_iload X105 hx 31 rfl (hb hby own_d2_29) rfl ?_
  refine own_iload X105 hx 33 rfl (hb hby own_d2_31) rfl ?_
  refine own_aload X105 hx 35 rfl (hb hby own_d2_33) rfl rfl ?_
  refine own_callS X105 hx hZ (y := (⟨"com/example/outpost/outpost/model/DistancesKeepNearerPinLaw", "expF", "(IIIIZI[I)I"⟩ : MethodName)) hown (own_hw hw 20 rfl) (own_hw hw 21 rfl) (by decide) (rm_expF_A2 l Z a0 hw [] i f r pz g b k2 v2 y h0 n0 Z0 V2 c1 hj hv2) (own_hw hw 22 rfl) (own_hw hw 15 rfl) (by decide) e105 (by rw [hml]; rfl) [(.int i), (.int f), (.int r), (.int pz), (.int (1 : Int32)), (.int g), (.ref b)] 1 (by decide) (Nat.le_of_eq rfl) (by decide) (by decide) (lenOf own_pd1 rfl) rfl rfl 38 rfl (hb hby own_d2_35) fun v107 T107 Lc107 X107 hQ107 => ?_
  obtain ⟨rfl, Nq107, e107⟩ := hQ107
  have N108 := Fr.app N106 Nq107
  show own_Go _ _ _ _ _ (State.setTop _ (mkF _ 38 _ [(.int y), (.int y)]))
  refine own_icmpNo X107 hx 41 rfl (hb hby own_d2_38) (teq rfl).2 ?_
  refine own_iconst X107 hx 42 rfl (hb hby own_d2_41) (1 : Int32) rfl ?_
  refine own_goto X107 hx 46 (hb hby own_d2_42) (by decide) rfl ?_
  refine own_ret X107 (some (.int (1 : Int32))) (fun h => by rw [Bd.returns] at h; cases h) Bd.notSynchronized (by decide) (by decide) ?_ (fun fs hr => retN X107 hx (t := .boolean) Bd.returns (by simp) (hb hby own_d2_46) hr)
  show Q_rm_same_A2 Z i f r pz d g a b u w k1 k2 k3 k4 v1 v2 v3 v4 x y h0 n0 _ T107.heap _
  rw [e107]
  exact ⟨rfl, N108, rfl⟩
theorem own_ef_rm_same_A3 (m : MethodId) (i : Int32) (f : Int32) (r : Int32) (pz : Int32) (d : UInt64) (g : Int32) (a : Addr) (b : Addr) (u : Addr) (w : Addr) : entryFrame m #[(.int i), (.int f), (.int r), (.int pz), (.int (1 : Int32)), (.double d), (.int g), (.ref a), (.ref b), (.ref u), (.ref w)] 12 = mkF m 0 #[.val (.int i), .val (.int f), .val (.int r), .val (.int pz), .val (.int (1 : Int32)), .val (.double d), .second, .val (.int g), .val (.ref a), .val (.ref b), .val (.ref u), .val (.ref w)] [] := by first | (simp [entryFrame, mkF, argsToLocals, Value.category]; done) | rfl
def Q_rm_same_A3 (Z : State) (i : Int32) (f : Int32) (r : Int32) (pz : Int32) (d : UInt64) (g : Int32) (a : Addr) (b : Addr) (u : Addr) (w : Addr) (k1 : ClassId) (k2 : ClassId) (k3 : ClassId) (k4 : ClassId) (v1 : List Value) (v2 : List Value) (v3 : List Value) (v4 : List Value) (x : UInt64) (y : Int32) (h0 : Heap) (n0 : Nat) (v : Option Value) (h : Heap) (L : List Loc) : Prop := v = some (.int (1 : Int32)) ∧ Fr n0 L ∧ h = h0
set_option maxRecDepth 65536 in
set_option maxHeartbeats 40000000 in
theorem rm_same_A3 (l : Launch) (Z : State) (a0 : Array Value) (hw : ∀ d ∈ tables_1, d.before a0 Z = true) (ws : List Jvm.Cond) (i : Int32) (f : Int32) (r : Int32) (pz : Int32) (d : UInt64) (g : Int32) (a : Addr) (b : Addr) (u : Addr) (w : Addr) (k1 : ClassId) (k2 : ClassId) (k3 : ClassId) (k4 : ClassId) (v1 : List Value) (v2 : List Value) (v3 : List Value) (v4 : List Value) (x : UInt64) (y : Int32) (h0 : Heap) (n0 : Nat) (Z0 : n0 ≤ h0.size) (V1 : Arv Z h0 a k1 .double (6 : Int32) v1 (.double (0 : UInt64))) (V2 : Arv Z h0 b k2 .int (6 : Int32) v2 (.int (0 : Int32))) (V3 : Arv Z h0 u k3 .double (6 : Int32) v3 (.double (0 : UInt64))) (V4 : Arv Z h0 w k4 .int (6 : Int32) v4 (.int (0 : Int32))) (c1 : ¬ i < f) (c2 : ¬ i < (f + r)) (hj : ¬ i < 0 ∧ i < (6 : Int32)) (hv1 : v1.getD (i).toNatClampNeg (.double (0 : UInt64)) = (.double x)) (hv2 : v2.getD (i).toNatClampNeg (.int (0 : Int32)) = (.int y)) (hi : ¬ i < 0 ∧ i < (6 : Int32)) (hv3 : v3.getD i.toNatClampNeg (.double (0 : UInt64)) = (.double x)) (hv4 : v4.getD i.toNatClampNeg (.int (0 : Int32)) = (.int y)) (hc : cmpValue (FP.dcmp x x) .l = 0) :
    MetFree l (⟨"com/example/outpost/outpost/model/DistancesKeepNearerPinLaw", "same", "(IIIIZDI[D[I[D[I)Z"⟩ : MethodName) (head1 (Jvm.Cond.code (⟨"com/example/outpost/outpost/model/DistancesKeepNearerPinLaw", "same", "(IIIIZDI[D[I[D[I)Z"⟩ : MethodName) method_4_code 12 (some .boolean) :: ws) ({ frames := 1, cells := 0, slots := 0, locals := 24 } : Room)) (fun aa U => aa = #[(.int i), (.int f), (.int r), (.int pz), (.int (1 : Int32)), (.double d), (.int g), (.ref a), (.ref b), (.ref u), (.ref w)] ∧ Z.Warmed39 U.vm ∧ U.heap = h0) (fun _ _ _ _ _ => True) (fun _ U ou U' => ∃ v L, ou = .returned v ∧ Q_rm_same_A3 Z i f r pz d g a b u w k1 k2 k3 k4 v1 v2 v3 v4 x y h0 n0 v U'.heap L ∧ FrameEnd U ou U' L ({ frames := 1, cells := 0, slots := 0, locals := 24 } : Room).cells ({ frames := 1, cells := 0, slots := 0, locals := 24 } : Room).slots) := by
  refine MetFree.of_bodySF (plainFor_of_name own_pn0) hisR ?_
  intro p e s m args below meth c s₁ Bd hml0 hP hK
  obtain ⟨rfl, hZ, hh⟩ := hP
  have hx := Bd.exec
  have hby := Bd.bytes
  have hml : c.maxLocals = 12 := hml0
  have hown : s.vm.findClass "com/example/outpost/outpost/model/DistancesKeepNearerPinLaw" = some m.cls := findClass_of_methodNamed Bd.named
  have hnm := (name_of_methodNamed Bd.named Bd.method).1
  have X0 : Stand p l e ({ frames := 1, cells := 0, slots := 0, locals := 24 } : Room) s m #[(.int i), (.int f), (.int r), (.int pz), (.int (1 : Int32)), (.double d), (.int g), (.ref a), (.ref b), (.ref u), (.ref w)] below meth c s₁ [] 0 0 := Stand.of_body Bd
  have e0 : s₁.heap = h0 := by rw [← hh, Bd.state]; rfl
  have N0 := Fr.nil n0
  show own_Go p e below (fun o u L => FrameEnd s o u L ({ frames := 1, cells := 0, slots := 0, locals := 24 } : Room).cells ({ frames := 1, cells := 0, slots := 0, locals := 24 } : Room).slots) (Q_rm_same_A3 Z i f r pz d g a b u w k1 k2 k3 k4 v1 v2 v3 v4 x y h0 n0) (s₁.setTop (entryFrame m #[(.int i), (.int f), (.int r), (.int pz), (.int (1 : Int32)), (.double d), (.int g), (.ref a), (.ref b), (.ref u), (.ref w)] 12))
  rw [own_ef_rm_same_A3 m i f r pz d g a b u w]
  show own_Go _ _ _ _ _ (State.setTop _ (mkF _ 0 #[.val (.int i), .val (.int f), .val (.int r), .val (.int pz), .val (.int (1 : Int32)), .val (.double d), .second, .val (.int g), .val (.ref a), .val (.ref b), .val (.ref u), .val (.ref w)] []))
  refine own_aload X0 hx 2 rfl (hb hby own_d2_0) rfl rfl ?_
  refine own_iloadN X0 hx 3 rfl (hb hby own_d2_2) rfl ?_
  refine own_ldD X0 hx hZ e0 V3 hi x hv3 4 rfl (hb hby own_d2_3) ?_
  refine own_iloadN X0 hx 5 rfl (hb hby own_d2_4) rfl ?_
  refine own_iloadN X0 hx 6 rfl (hb hby own_d2_5) rfl ?_
  refine own_iloadN X0 hx 7 rfl (hb hby own_d2_6) rfl ?_
  refine own_iloadN X0 hx 8 rfl (hb hby own_d2_7) rfl ?_
  refine own_iload X0 hx 10 rfl (hb hby own_d2_8) rfl ?_
  refine own_dload X0 hx 12 rfl (hb hby own_d2_10) rfl ?_
  refine own_aload X0 hx 14 rfl (hb hby own_d2_12) rfl rfl ?_
  refine own_callS X0 hx hZ (y := (⟨"com/example/outpost/outpost/model/DistancesKeepNearerPinLaw", "expD", "(IIIIZD[D)D"⟩ : MethodName)) hown (own_hw hw 17 rfl) (own_hw hw 18 rfl) (by decide) (rm_expD_A3 l Z a0 hw [] i f r pz d a k1 v1 x h0 n0 Z0 V1 c1 c2 hj hv1) (own_hw hw 19 rfl) (own_hw hw 15 rfl) (by decide) e0 (by rw [hml]; rfl) [(.int i), (.int f), (.int r), (.int pz), (.int (1 : Int32)), (.double d), (.ref a)] 2 (by decide) (Nat.le_of_eq rfl) (by decide) (by decide) (lenOf own_pd0 rfl) rfl rfl 17 rfl (hb hby own_d2_14) fun v109 T109 Lc109 X109 hQ109 => ?_
  obtain ⟨rfl, Nq109, e109⟩ := hQ109
  have N110 := Fr.app N0 Nq109
  show own_Go _ _ _ _ _ (State.setTop _ (mkF _ 17 _ [(.double x), (.double x)]))
  refine own_dcmp X109 hx 18 rfl (hb hby own_d2_17) (0 : Int32) hc ?_
  refine own_ifNo X109 hx 21 rfl (hb hby own_d2_18) (by decide) ?_
  refine own_aload X109 hx 23 rfl (hb hby own_d2_21) rfl rfl ?_
  refine own_iloadN X109 hx 24 rfl (hb hby own_d2_23) rfl ?_
  refine own_ldI X109 hx hZ e109 V4 hi y hv4 25 rfl (hb hby own_d2_24) ?_
  refine own_iloadN X109 hx 26 rfl (hb hby own_d2_25) rfl ?_
  refine own_iloadN X109 hx 27 rfl (hb hby own_d2_26) rfl ?_
  refine own_iloadN X109 hx 28 rfl (hb hby own_d2_27) rfl ?_
  refine own_iloadN X109 hx 29 rfl (hb hby own_d2_28) rfl ?_
  refine own_iload X109 hx 31 rfl (hb hby own_d2_29) rfl ?_
  refine own_iload X109 hx 33 rfl (hb hby own_d2_31) rfl ?_
  refine own_aload X109 hx 35 rfl (hb hby own_d2_33) rfl rfl ?_
  refine own_callS X109 hx hZ (y := (⟨"com/example/outpost/outpost/model/DistancesKeepNearerPinLaw", "expF", "(IIIIZI[I)I"⟩ : MethodName)) hown (own_hw hw 20 rfl) (own_hw hw 21 rfl) (by decide) (rm_expF_A3 l Z a0 hw [] i f r pz g b k2 v2 y h0 n0 Z0 V2 c1 c2 hj hv2) (own_hw hw 22 rfl) (own_hw hw 15 rfl) (by decide) e109 (by rw [hml]; rfl) [(.int i), (.int f), (.int r), (.int pz), (.int (1 : Int32)), (.int g), (.ref b)] 1 (by decide) (Nat.le_of_eq rfl) (by decide) (by decide) (lenOf own_pd1 rfl) rfl rfl 38 rfl (hb hby own_d2_35) fun v111 T111 Lc111 X111 hQ111 => ?_
  obtain ⟨rfl, Nq111, e111⟩ := hQ111
  have N112 := Fr.app N110 Nq111
  show own_Go _ _ _ _ _ (State.setTop _ (mkF _ 38 _ [(.int y), (.int y)]))
  refine own_icmpNo X111 hx 41 rfl (hb hby own_d2_38) (teq rfl).2 ?_
  refine own_iconst X111 hx 42 rfl (hb hby own_d2_41) (1 : Int32) rfl ?_
  refine own_goto X111 hx 46 (hb hby own_d2_42) (by decide) rfl ?_
  refine own_ret X111 (some (.int (1 : Int32))) (fun h => by rw [Bd.returns] at h; cases h) Bd.notSynchronized (by decide) (by decide) ?_ (fun fs hr => retN X111 hx (t := .boolean) Bd.returns (by simp) (hb hby own_d2_46) hr)
  show Q_rm_same_A3 Z i f r pz d g a b u w k1 k2 k3 k4 v1 v2 v3 v4 x y h0 n0 _ T111.heap _
  rw [e111]
  exact ⟨rfl, N112, rfl⟩
theorem own_ef_rm_same_B (m : MethodId) (i : Int32) (f : Int32) (r : Int32) (pz : Int32) (d : UInt64) (g : Int32) (a : Addr) (b : Addr) (u : Addr) (w : Addr) : entryFrame m #[(.int i), (.int f), (.int r), (.int pz), (.int (1 : Int32)), (.double d), (.int g), (.ref a), (.ref b), (.ref u), (.ref w)] 12 = mkF m 0 #[.val (.int i), .val (.int f), .val (.int r), .val (.int pz), .val (.int (1 : Int32)), .val (.double d), .second, .val (.int g), .val (.ref a), .val (.ref b), .val (.ref u), .val (.ref w)] [] := by first | (simp [entryFrame, mkF, argsToLocals, Value.category]; done) | rfl
def Q_rm_same_B (Z : State) (i : Int32) (f : Int32) (r : Int32) (pz : Int32) (d : UInt64) (g : Int32) (a : Addr) (b : Addr) (u : Addr) (w : Addr) (k1 : ClassId) (k2 : ClassId) (k3 : ClassId) (k4 : ClassId) (v1 : List Value) (v2 : List Value) (v3 : List Value) (v4 : List Value) (x : UInt64) (y : Int32) (h0 : Heap) (n0 : Nat) (v : Option Value) (h : Heap) (L : List Loc) : Prop := v = some (.int (1 : Int32)) ∧ Fr n0 L ∧ h = h0
set_option maxRecDepth 65536 in
set_option maxHeartbeats 40000000 in
theorem rm_same_B (l : Launch) (Z : State) (a0 : Array Value) (hw : ∀ d ∈ tables_1, d.before a0 Z = true) (ws : List Jvm.Cond) (i : Int32) (f : Int32) (r : Int32) (pz : Int32) (d : UInt64) (g : Int32) (a : Addr) (b : Addr) (u : Addr) (w : Addr) (k1 : ClassId) (k2 : ClassId) (k3 : ClassId) (k4 : ClassId) (v1 : List Value) (v2 : List Value) (v3 : List Value) (v4 : List Value) (x : UInt64) (y : Int32) (h0 : Heap) (n0 : Nat) (Z0 : n0 ≤ h0.size) (V1 : Arv Z h0 a k1 .double (6 : Int32) v1 (.double (0 : UInt64))) (V2 : Arv Z h0 b k2 .int (6 : Int32) v2 (.int (0 : Int32))) (V3 : Arv Z h0 u k3 .double (6 : Int32) v3 (.double (0 : UInt64))) (V4 : Arv Z h0 w k4 .int (6 : Int32) v4 (.int (0 : Int32))) (c1 : ¬ i < f) (c2 : i < (f + r)) (c3 : (i - f) < pz) (hj : ¬ i < 0 ∧ i < (6 : Int32)) (hv1 : v1.getD (i).toNatClampNeg (.double (0 : UInt64)) = (.double x)) (hv2 : v2.getD (i).toNatClampNeg (.int (0 : Int32)) = (.int y)) (hi : ¬ i < 0 ∧ i < (6 : Int32)) (hv3 : v3.getD i.toNatClampNeg (.double (0 : UInt64)) = (.double x)) (hv4 : v4.getD i.toNatClampNeg (.int (0 : Int32)) = (.int y)) (hc : cmpValue (FP.dcmp x x) .l = 0) :
    MetFree l (⟨"com/example/outpost/outpost/model/DistancesKeepNearerPinLaw", "same", "(IIIIZDI[D[I[D[I)Z"⟩ : MethodName) (head1 (Jvm.Cond.code (⟨"com/example/outpost/outpost/model/DistancesKeepNearerPinLaw", "same", "(IIIIZDI[D[I[D[I)Z"⟩ : MethodName) method_4_code 12 (some .boolean) :: ws) ({ frames := 1, cells := 0, slots := 0, locals := 24 } : Room)) (fun aa U => aa = #[(.int i), (.int f), (.int r), (.int pz), (.int (1 : Int32)), (.double d), (.int g), (.ref a), (.ref b), (.ref u), (.ref w)] ∧ Z.Warmed39 U.vm ∧ U.heap = h0) (fun _ _ _ _ _ => True) (fun _ U ou U' => ∃ v L, ou = .returned v ∧ Q_rm_same_B Z i f r pz d g a b u w k1 k2 k3 k4 v1 v2 v3 v4 x y h0 n0 v U'.heap L ∧ FrameEnd U ou U' L ({ frames := 1, cells := 0, slots := 0, locals := 24 } : Room).cells ({ frames := 1, cells := 0, slots := 0, locals := 24 } : Room).slots) := by
  refine MetFree.of_bodySF (plainFor_of_name own_pn0) hisR ?_
  intro p e s m args below meth c s₁ Bd hml0 hP hK
  obtain ⟨rfl, hZ, hh⟩ := hP
  have hx := Bd.exec
  have hby := Bd.bytes
  have hml : c.maxLocals = 12 := hml0
  have hown : s.vm.findClass "com/example/outpost/outpost/model/DistancesKeepNearerPinLaw" = some m.cls := findClass_of_methodNamed Bd.named
  have hnm := (name_of_methodNamed Bd.named Bd.method).1
  have X0 : Stand p l e ({ frames := 1, cells := 0, slots := 0, locals := 24 } : Room) s m #[(.int i), (.int f), (.int r), (.int pz), (.int (1 : Int32)), (.double d), (.int g), (.ref a), (.ref b), (.ref u), (.ref w)] below meth c s₁ [] 0 0 := Stand.of_body Bd
  have e0 : s₁.heap = h0 := by rw [← hh, Bd.state]; rfl
  have N0 := Fr.nil n0
  show own_Go p e below (fun o u L => FrameEnd s o u L ({ frames := 1, cells := 0, slots := 0, locals := 24 } : Room).cells ({ frames := 1, cells := 0, slots := 0, locals := 24 } : Room).slots) (Q_rm_same_B Z i f r pz d g a b u w k1 k2 k3 k4 v1 v2 v3 v4 x y h0 n0) (s₁.setTop (entryFrame m #[(.int i), (.int f), (.int r), (.int pz), (.int (1 : Int32)), (.double d), (.int g), (.ref a), (.ref b), (.ref u), (.ref w)] 12))
  rw [own_ef_rm_same_B m i f r pz d g a b u w]
  show own_Go _ _ _ _ _ (State.setTop _ (mkF _ 0 #[.val (.int i), .val (.int f), .val (.int r), .val (.int pz), .val (.int (1 : Int32)), .val (.double d), .second, .val (.int g), .val (.ref a), .val (.ref b), .val (.ref u), .val (.ref w)] []))
  refine own_aload X0 hx 2 rfl (hb hby own_d2_0) rfl rfl ?_
  refine own_iloadN X0 hx 3 rfl (hb hby own_d2_2) rfl ?_
  refine own_ldD X0 hx hZ e0 V3 hi x hv3 4 rfl (hb hby own_d2_3) ?_
  refine own_iloadN X0 hx 5 rfl (hb hby own_d2_4) rfl ?_
  refine own_iloadN X0 hx 6 rfl (hb hby own_d2_5) rfl ?_
  refine own_iloadN X0 hx 7 rfl (hb hby own_d2_6) rfl ?_
  refine own_iloadN X0 hx 8 rfl (hb hby own_d2_7) rfl ?_
  refine own_iload X0 hx 10 rfl (hb hby own_d2_8) rfl ?_
  refine own_dload X0 hx 12 rfl (hb hby own_d2_10) rfl ?_
  refine own_aload X0 hx 14 rfl (hb hby own_d2_12) rfl rfl ?_
  refine own_callS X0 hx hZ (y := (⟨"com/example/outpost/outpost/model/DistancesKeepNearerPinLaw", "expD", "(IIIIZD[D)D"⟩ : MethodName)) hown (own_hw hw 17 rfl) (own_hw hw 18 rfl) (by decide) (rm_expD_B l Z a0 hw [] i f r pz d a k1 v1 x h0 n0 Z0 V1 c1 c2 c3 hj hv1) (own_hw hw 19 rfl) (own_hw hw 15 rfl) (by decide) e0 (by rw [hml]; rfl) [(.int i), (.int f), (.int r), (.int pz), (.int (1 : Int32)), (.double d), (.ref a)] 2 (by decide) (Nat.le_of_eq rfl) (by decide) (by decide) (lenOf own_pd0 rfl) rfl rfl 17 rfl (hb hby own_d2_14) fun v113 T113 Lc113 X113 hQ113 => ?_
  obtain ⟨rfl, Nq113, e113⟩ := hQ113
  have N114 := Fr.app N0 Nq113
  show own_Go _ _ _ _ _ (State.setTop _ (mkF _ 17 _ [(.double x), (.double x)]))
  refine own_dcmp X113 hx 18 rfl (hb hby own_d2_17) (0 : Int32) hc ?_
  refine own_ifNo X113 hx 21 rfl (hb hby own_d2_18) (by decide) ?_
  refine own_aload X113 hx 23 rfl (hb hby own_d2_21) rfl rfl ?_
  refine own_iloadN X113 hx 24 rfl (hb hby own_d2_23) rfl ?_
  refine own_ldI X113 hx hZ e113 V4 hi y hv4 25 rfl (hb hby own_d2_24) ?_
  refine own_iloadN X113 hx 26 rfl (hb hby own_d2_25) rfl ?_
  refine own_iloadN X113 hx 27 rfl (hb hby own_d2_26) rfl ?_
  refine own_iloadN X113 hx 28 rfl (hb hby own_d2_27) rfl ?_
  refine own_iloadN X113 hx 29 rfl (hb hby own_d2_28) rfl ?_
  refine own_iload X113 hx 31 rfl (hb hby own_d2_29) rfl ?_
  refine own_iload X113 hx 33 rfl (hb hby own_d2_31) rfl ?_
  refine own_aload X113 hx 35 rfl (hb hby own_d2_33) rfl rfl ?_
  refine own_callS X113 hx hZ (y := (⟨"com/example/outpost/outpost/model/DistancesKeepNearerPinLaw", "expF", "(IIIIZI[I)I"⟩ : MethodName)) hown (own_hw hw 20 rfl) (own_hw hw 21 rfl) (by decide) (rm_expF_B l Z a0 hw [] i f r pz g b k2 v2 y h0 n0 Z0 V2 c1 c2 c3 hj hv2) (own_hw hw 22 rfl) (own_hw hw 15 rfl) (by decide) e113 (by rw [hml]; rfl) [(.int i), (.int f), (.int r), (.int pz), (.int (1 : Int32)), (.int g), (.ref b)] 1 (by decide) (Nat.le_of_eq rfl) (by decide) (by decide) (lenOf own_pd1 rfl) rfl rfl 38 rfl (hb hby own_d2_35) fun v115 T115 Lc115 X115 hQ115 => ?_
  obtain ⟨rfl, Nq115, e115⟩ := hQ115
  have N116 := Fr.app N114 Nq115
  show own_Go _ _ _ _ _ (State.setTop _ (mkF _ 38 _ [(.int y), (.int y)]))
  refine own_icmpNo X115 hx 41 rfl (hb hby own_d2_38) (teq rfl).2 ?_
  refine own_iconst X115 hx 42 rfl (hb hby own_d2_41) (1 : Int32) rfl ?_
  refine own_goto X115 hx 46 (hb hby own_d2_42) (by decide) rfl ?_
  refine own_ret X115 (some (.int (1 : Int32))) (fun h => by rw [Bd.returns] at h; cases h) Bd.notSynchronized (by decide) (by decide) ?_ (fun fs hr => retN X115 hx (t := .boolean) Bd.returns (by simp) (hb hby own_d2_46) hr)
  show Q_rm_same_B Z i f r pz d g a b u w k1 k2 k3 k4 v1 v2 v3 v4 x y h0 n0 _ T115.heap _
  rw [e115]
  exact ⟨rfl, N116, rfl⟩
theorem own_ef_rm_same_C (m : MethodId) (i : Int32) (f : Int32) (r : Int32) (pz : Int32) (d : UInt64) (g : Int32) (a : Addr) (b : Addr) (u : Addr) (w : Addr) : entryFrame m #[(.int i), (.int f), (.int r), (.int pz), (.int (1 : Int32)), (.double d), (.int g), (.ref a), (.ref b), (.ref u), (.ref w)] 12 = mkF m 0 #[.val (.int i), .val (.int f), .val (.int r), .val (.int pz), .val (.int (1 : Int32)), .val (.double d), .second, .val (.int g), .val (.ref a), .val (.ref b), .val (.ref u), .val (.ref w)] [] := by first | (simp [entryFrame, mkF, argsToLocals, Value.category]; done) | rfl
def Q_rm_same_C (Z : State) (i : Int32) (f : Int32) (r : Int32) (pz : Int32) (d : UInt64) (g : Int32) (a : Addr) (b : Addr) (u : Addr) (w : Addr) (k1 : ClassId) (k2 : ClassId) (k3 : ClassId) (k4 : ClassId) (v1 : List Value) (v2 : List Value) (v3 : List Value) (v4 : List Value) (x : UInt64) (y : Int32) (h0 : Heap) (n0 : Nat) (v : Option Value) (h : Heap) (L : List Loc) : Prop := v = some (.int (1 : Int32)) ∧ Fr n0 L ∧ h = h0
set_option maxRecDepth 65536 in
set_option maxHeartbeats 40000000 in
theorem rm_same_C (l : Launch) (Z : State) (a0 : Array Value) (hw : ∀ d ∈ tables_1, d.before a0 Z = true) (ws : List Jvm.Cond) (i : Int32) (f : Int32) (r : Int32) (pz : Int32) (d : UInt64) (g : Int32) (a : Addr) (b : Addr) (u : Addr) (w : Addr) (k1 : ClassId) (k2 : ClassId) (k3 : ClassId) (k4 : ClassId) (v1 : List Value) (v2 : List Value) (v3 : List Value) (v4 : List Value) (x : UInt64) (y : Int32) (h0 : Heap) (n0 : Nat) (Z0 : n0 ≤ h0.size) (V1 : Arv Z h0 a k1 .double (6 : Int32) v1 (.double (0 : UInt64))) (V2 : Arv Z h0 b k2 .int (6 : Int32) v2 (.int (0 : Int32))) (V3 : Arv Z h0 u k3 .double (6 : Int32) v3 (.double (0 : UInt64))) (V4 : Arv Z h0 w k4 .int (6 : Int32) v4 (.int (0 : Int32))) (c1 : ¬ i < f) (c2 : i < (f + r)) (c3 : ¬ (i - f) < pz) (c4 : (i - f) = pz) (hv1 : d = x) (hv2 : g = y) (hi : ¬ i < 0 ∧ i < (6 : Int32)) (hv3 : v3.getD i.toNatClampNeg (.double (0 : UInt64)) = (.double x)) (hv4 : v4.getD i.toNatClampNeg (.int (0 : Int32)) = (.int y)) (hc : cmpValue (FP.dcmp x x) .l = 0) :
    MetFree l (⟨"com/example/outpost/outpost/model/DistancesKeepNearerPinLaw", "same", "(IIIIZDI[D[I[D[I)Z"⟩ : MethodName) (head1 (Jvm.Cond.code (⟨"com/example/outpost/outpost/model/DistancesKeepNearerPinLaw", "same", "(IIIIZDI[D[I[D[I)Z"⟩ : MethodName) method_4_code 12 (some .boolean) :: ws) ({ frames := 1, cells := 0, slots := 0, locals := 24 } : Room)) (fun aa U => aa = #[(.int i), (.int f), (.int r), (.int pz), (.int (1 : Int32)), (.double d), (.int g), (.ref a), (.ref b), (.ref u), (.ref w)] ∧ Z.Warmed39 U.vm ∧ U.heap = h0) (fun _ _ _ _ _ => True) (fun _ U ou U' => ∃ v L, ou = .returned v ∧ Q_rm_same_C Z i f r pz d g a b u w k1 k2 k3 k4 v1 v2 v3 v4 x y h0 n0 v U'.heap L ∧ FrameEnd U ou U' L ({ frames := 1, cells := 0, slots := 0, locals := 24 } : Room).cells ({ frames := 1, cells := 0, slots := 0, locals := 24 } : Room).slots) := by
  refine MetFree.of_bodySF (plainFor_of_name own_pn0) hisR ?_
  intro p e s m args below meth c s₁ Bd hml0 hP hK
  obtain ⟨rfl, hZ, hh⟩ := hP
  have hx := Bd.exec
  have hby := Bd.bytes
  have hml : c.maxLocals = 12 := hml0
  have hown : s.vm.findClass "com/example/outpost/outpost/model/DistancesKeepNearerPinLaw" = some m.cls := findClass_of_methodNamed Bd.named
  have hnm := (name_of_methodNamed Bd.named Bd.method).1
  have X0 : Stand p l e ({ frames := 1, cells := 0, slots := 0, locals := 24 } : Room) s m #[(.int i), (.int f), (.int r), (.int pz), (.int (1 : Int32)), (.double d), (.int g), (.ref a), (.ref b), (.ref u), (.ref w)] below meth c s₁ [] 0 0 := Stand.of_body Bd
  have e0 : s₁.heap = h0 := by rw [← hh, Bd.state]; rfl
  have N0 := Fr.nil n0
  show own_Go p e below (fun o u L => FrameEnd s o u L ({ frames := 1, cells := 0, slots := 0, locals := 24 } : Room).cells ({ frames := 1, cells := 0, slots := 0, locals := 24 } : Room).slots) (Q_rm_same_C Z i f r pz d g a b u w k1 k2 k3 k4 v1 v2 v3 v4 x y h0 n0) (s₁.setTop (entryFrame m #[(.int i), (.int f), (.int r), (.int pz), (.int (1 : Int32)), (.double d), (.int g), (.ref a), (.ref b), (.ref u), (.ref w)] 12))
  rw [own_ef_rm_same_C m i f r pz d g a b u w]
  show own_Go _ _ _ _ _ (State.setTop _ (mkF _ 0 #[.val (.int i), .val (.int f), .val (.int r), .val (.int pz), .val (.int (1 : Int32)), .val (.double d), .second, .val (.int g), .val (.ref a), .val (.ref b), .val (.ref u), .val (.ref w)] []))
  refine own_aload X0 hx 2 rfl (hb hby own_d2_0) rfl rfl ?_
  refine own_iloadN X0 hx 3 rfl (hb hby own_d2_2) rfl ?_
  refine own_ldD X0 hx hZ e0 V3 hi x hv3 4 rfl (hb hby own_d2_3) ?_
  refine own_iloadN X0 hx 5 rfl (hb hby own_d2_4) rfl ?_
  refine own_iloadN X0 hx 6 rfl (hb hby own_d2_5) rfl ?_
  refine own_iloadN X0 hx 7 rfl (hb hby own_d2_6) rfl ?_
  refine own_iloadN X0 hx 8 rfl (hb hby own_d2_7) rfl ?_
  refine own_iload X0 hx 10 rfl (hb hby own_d2_8) rfl ?_
  refine own_dload X0 hx 12 rfl (hb hby own_d2_10) rfl ?_
  refine own_aload X0 hx 14 rfl (hb hby own_d2_12) rfl rfl ?_
  refine own_callS X0 hx hZ (y := (⟨"com/example/outpost/outpost/model/DistancesKeepNearerPinLaw", "expD", "(IIIIZD[D)D"⟩ : MethodName)) hown (own_hw hw 17 rfl) (own_hw hw 18 rfl) (by decide) (rm_expD_C l Z a0 hw [] i f r pz d a k1 v1 x h0 n0 Z0 V1 c1 c2 c3 c4 hv1) (own_hw hw 19 rfl) (own_hw hw 15 rfl) (by decide) e0 (by rw [hml]; rfl) [(.int i), (.int f), (.int r), (.int pz), (.int (1 : Int32)), (.double d), (.ref a)] 2 (by decide) (Nat.le_of_eq rfl) (by decide) (by decide) (lenOf own_pd0 rfl) rfl rfl 17 rfl (hb hby own_d2_14) fun v117 T117 Lc117 X117 hQ117 => ?_
  obtain ⟨rfl, Nq117, e117⟩ := hQ117
  have N118 := Fr.app N0 Nq117
  show own_Go _ _ _ _ _ (State.setTop _ (mkF _ 17 _ [(.double x), (.double x)]))
  refine own_dcmp X117 hx 18 rfl (hb hby own_d2_17) (0 : Int32) hc ?_
  refine own_ifNo X117 hx 21 rfl (hb hby own_d2_18) (by decide) ?_
  refine own_aload X117 hx 23 rfl (hb hby own_d2_21) rfl rfl ?_
  refine own_iloadN X117 hx 24 rfl (hb hby own_d2_23) rfl ?_
  refine own_ldI X117 hx hZ e117 V4 hi y hv4 25 rfl (hb hby own_d2_24) ?_
  refine own_iloadN X117 hx 26 rfl (hb hby own_d2_25) rfl ?_
  refine own_iloadN X117 hx 27 rfl (hb hby own_d2_26) rfl ?_
  refine own_iloadN X117 hx 28 rfl (hb hby own_d2_27) rfl ?_
  refine own_iloadN X117 hx 29 rfl (hb hby own_d2_28) rfl ?_
  refine own_iload X117 hx 31 rfl (hb hby own_d2_29) rfl ?_
  refine own_iload X117 hx 33 rfl (hb hby own_d2_31) rfl ?_
  refine own_aload X117 hx 35 rfl (hb hby own_d2_33) rfl rfl ?_
  refine own_callS X117 hx hZ (y := (⟨"com/example/outpost/outpost/model/DistancesKeepNearerPinLaw", "expF", "(IIIIZI[I)I"⟩ : MethodName)) hown (own_hw hw 20 rfl) (own_hw hw 21 rfl) (by decide) (rm_expF_C l Z a0 hw [] i f r pz g b k2 v2 y h0 n0 Z0 V2 c1 c2 c3 c4 hv2) (own_hw hw 22 rfl) (own_hw hw 15 rfl) (by decide) e117 (by rw [hml]; rfl) [(.int i), (.int f), (.int r), (.int pz), (.int (1 : Int32)), (.int g), (.ref b)] 1 (by decide) (Nat.le_of_eq rfl) (by decide) (by decide) (lenOf own_pd1 rfl) rfl rfl 38 rfl (hb hby own_d2_35) fun v119 T119 Lc119 X119 hQ119 => ?_
  obtain ⟨rfl, Nq119, e119⟩ := hQ119
  have N120 := Fr.app N118 Nq119
  show own_Go _ _ _ _ _ (State.setTop _ (mkF _ 38 _ [(.int y), (.int y)]))
  refine own_icmpNo X119 hx 41 rfl (hb hby own_d2_38) (teq rfl).2 ?_
  refine own_iconst X119 hx 42 rfl (hb hby own_d2_41) (1 : Int32) rfl ?_
  refine own_goto X119 hx 46 (hb hby own_d2_42) (by decide) rfl ?_
  refine own_ret X119 (some (.int (1 : Int32))) (fun h => by rw [Bd.returns] at h; cases h) Bd.notSynchronized (by decide) (by decide) ?_ (fun fs hr => retN X119 hx (t := .boolean) Bd.returns (by simp) (hb hby own_d2_46) hr)
  show Q_rm_same_C Z i f r pz d g a b u w k1 k2 k3 k4 v1 v2 v3 v4 x y h0 n0 _ T119.heap _
  rw [e119]
  exact ⟨rfl, N120, rfl⟩
theorem own_ef_rm_same_D (m : MethodId) (i : Int32) (f : Int32) (r : Int32) (pz : Int32) (d : UInt64) (g : Int32) (a : Addr) (b : Addr) (u : Addr) (w : Addr) : entryFrame m #[(.int i), (.int f), (.int r), (.int pz), (.int (1 : Int32)), (.double d), (.int g), (.ref a), (.ref b), (.ref u), (.ref w)] 12 = mkF m 0 #[.val (.int i), .val (.int f), .val (.int r), .val (.int pz), .val (.int (1 : Int32)), .val (.double d), .second, .val (.int g), .val (.ref a), .val (.ref b), .val (.ref u), .val (.ref w)] [] := by first | (simp [entryFrame, mkF, argsToLocals, Value.category]; done) | rfl
def Q_rm_same_D (Z : State) (i : Int32) (f : Int32) (r : Int32) (pz : Int32) (d : UInt64) (g : Int32) (a : Addr) (b : Addr) (u : Addr) (w : Addr) (k1 : ClassId) (k2 : ClassId) (k3 : ClassId) (k4 : ClassId) (v1 : List Value) (v2 : List Value) (v3 : List Value) (v4 : List Value) (x : UInt64) (y : Int32) (h0 : Heap) (n0 : Nat) (v : Option Value) (h : Heap) (L : List Loc) : Prop := v = some (.int (1 : Int32)) ∧ Fr n0 L ∧ h = h0
set_option maxRecDepth 65536 in
set_option maxHeartbeats 40000000 in
theorem rm_same_D (l : Launch) (Z : State) (a0 : Array Value) (hw : ∀ d ∈ tables_1, d.before a0 Z = true) (ws : List Jvm.Cond) (i : Int32) (f : Int32) (r : Int32) (pz : Int32) (d : UInt64) (g : Int32) (a : Addr) (b : Addr) (u : Addr) (w : Addr) (k1 : ClassId) (k2 : ClassId) (k3 : ClassId) (k4 : ClassId) (v1 : List Value) (v2 : List Value) (v3 : List Value) (v4 : List Value) (x : UInt64) (y : Int32) (h0 : Heap) (n0 : Nat) (Z0 : n0 ≤ h0.size) (V1 : Arv Z h0 a k1 .double (6 : Int32) v1 (.double (0 : UInt64))) (V2 : Arv Z h0 b k2 .int (6 : Int32) v2 (.int (0 : Int32))) (V3 : Arv Z h0 u k3 .double (6 : Int32) v3 (.double (0 : UInt64))) (V4 : Arv Z h0 w k4 .int (6 : Int32) v4 (.int (0 : Int32))) (c1 : ¬ i < f) (c2 : i < (f + r)) (c3 : ¬ (i - f) < pz) (c4 : ¬ (i - f) = pz) (hj : ¬ (i - (1 : Int32)) < 0 ∧ (i - (1 : Int32)) < (6 : Int32)) (hv1 : v1.getD ((i - (1 : Int32))).toNatClampNeg (.double (0 : UInt64)) = (.double x)) (hv2 : v2.getD ((i - (1 : Int32))).toNatClampNeg (.int (0 : Int32)) = (.int y)) (hi : ¬ i < 0 ∧ i < (6 : Int32)) (hv3 : v3.getD i.toNatClampNeg (.double (0 : UInt64)) = (.double x)) (hv4 : v4.getD i.toNatClampNeg (.int (0 : Int32)) = (.int y)) (hc : cmpValue (FP.dcmp x x) .l = 0) :
    MetFree l (⟨"com/example/outpost/outpost/model/DistancesKeepNearerPinLaw", "same", "(IIIIZDI[D[I[D[I)Z"⟩ : MethodName) (head1 (Jvm.Cond.code (⟨"com/example/outpost/outpost/model/DistancesKeepNearerPinLaw", "same", "(IIIIZDI[D[I[D[I)Z"⟩ : MethodName) method_4_code 12 (some .boolean) :: ws) ({ frames := 1, cells := 0, slots := 0, locals := 24 } : Room)) (fun aa U => aa = #[(.int i), (.int f), (.int r), (.int pz), (.int (1 : Int32)), (.double d), (.int g), (.ref a), (.ref b), (.ref u), (.ref w)] ∧ Z.Warmed39 U.vm ∧ U.heap = h0) (fun _ _ _ _ _ => True) (fun _ U ou U' => ∃ v L, ou = .returned v ∧ Q_rm_same_D Z i f r pz d g a b u w k1 k2 k3 k4 v1 v2 v3 v4 x y h0 n0 v U'.heap L ∧ FrameEnd U ou U' L ({ frames := 1, cells := 0, slots := 0, locals := 24 } : Room).cells ({ frames := 1, cells := 0, slots := 0, locals := 24 } : Room).slots) := by
  refine MetFree.of_bodySF (plainFor_of_name own_pn0) hisR ?_
  intro p e s m args below meth c s₁ Bd hml0 hP hK
  obtain ⟨rfl, hZ, hh⟩ := hP
  have hx := Bd.exec
  have hby := Bd.bytes
  have hml : c.maxLocals = 12 := hml0
  have hown : s.vm.findClass "com/example/outpost/outpost/model/DistancesKeepNearerPinLaw" = some m.cls := findClass_of_methodNamed Bd.named
  have hnm := (name_of_methodNamed Bd.named Bd.method).1
  have X0 : Stand p l e ({ frames := 1, cells := 0, slots := 0, locals := 24 } : Room) s m #[(.int i), (.int f), (.int r), (.int pz), (.int (1 : Int32)), (.double d), (.int g), (.ref a), (.ref b), (.ref u), (.ref w)] below meth c s₁ [] 0 0 := Stand.of_body Bd
  have e0 : s₁.heap = h0 := by rw [← hh, Bd.state]; rfl
  have N0 := Fr.nil n0
  show own_Go p e below (fun o u L => FrameEnd s o u L ({ frames := 1, cells := 0, slots := 0, locals := 24 } : Room).cells ({ frames := 1, cells := 0, slots := 0, locals := 24 } : Room).slots) (Q_rm_same_D Z i f r pz d g a b u w k1 k2 k3 k4 v1 v2 v3 v4 x y h0 n0) (s₁.setTop (entryFrame m #[(.int i), (.int f), (.int r), (.int pz), (.int (1 : Int32)), (.double d), (.int g), (.ref a), (.ref b), (.ref u), (.ref w)] 12))
  rw [own_ef_rm_same_D m i f r pz d g a b u w]
  show own_Go _ _ _ _ _ (State.setTop _ (mkF _ 0 #[.val (.int i), .val (.int f), .val (.int r), .val (.int pz), .val (.int (1 : Int32)), .val (.double d), .second, .val (.int g), .val (.ref a), .val (.ref b), .val (.ref u), .val (.ref w)] []))
  refine own_aload X0 hx 2 rfl (hb hby own_d2_0) rfl rfl ?_
  refine own_iloadN X0 hx 3 rfl (hb hby own_d2_2) rfl ?_
  refine own_ldD X0 hx hZ e0 V3 hi x hv3 4 rfl (hb hby own_d2_3) ?_
  refine own_iloadN X0 hx 5 rfl (hb hby own_d2_4) rfl ?_
  refine own_iloadN X0 hx 6 rfl (hb hby own_d2_5) rfl ?_
  refine own_iloadN X0 hx 7 rfl (hb hby own_d2_6) rfl ?_
  refine own_iloadN X0 hx 8 rfl (hb hby own_d2_7) rfl ?_
  refine own_iload X0 hx 10 rfl (hb hby own_d2_8) rfl ?_
  refine own_dload X0 hx 12 rfl (hb hby own_d2_10) rfl ?_
  refine own_aload X0 hx 14 rfl (hb hby own_d2_12) rfl rfl ?_
  refine own_callS X0 hx hZ (y := (⟨"com/example/outpost/outpost/model/DistancesKeepNearerPinLaw", "expD", "(IIIIZD[D)D"⟩ : MethodName)) hown (own_hw hw 17 rfl) (own_hw hw 18 rfl) (by decide) (rm_expD_D l Z a0 hw [] i f r pz d a k1 v1 x h0 n0 Z0 V1 c1 c2 c3 c4 hj hv1) (own_hw hw 19 rfl) (own_hw hw 15 rfl) (by decide) e0 (by rw [hml]; rfl) [(.int i), (.int f), (.int r), (.int pz), (.int (1 : Int32)), (.double d), (.ref a)] 2 (by decide) (Nat.le_of_eq rfl) (by decide) (by decide) (lenOf own_pd0 rfl) rfl rfl 17 rfl (hb hby own_d2_14) fun v121 T121 Lc121 X121 hQ121 => ?_
  obtain ⟨rfl, Nq121, e121⟩ := hQ121
  have N122 := Fr.app N0 Nq121
  show own_Go _ _ _ _ _ (State.setTop _ (mkF _ 17 _ [(.double x), (.double x)]))
  refine own_dcmp X121 hx 18 rfl (hb hby own_d2_17) (0 : Int32) hc ?_
  refine own_ifNo X121 hx 21 rfl (hb hby own_d2_18) (by decide) ?_
  refine own_aload X121 hx 23 rfl (hb hby own_d2_21) rfl rfl ?_
  refine own_iloadN X121 hx 24 rfl (hb hby own_d2_23) rfl ?_
  refine own_ldI X121 hx hZ e121 V4 hi y hv4 25 rfl (hb hby own_d2_24) ?_
  refine own_iloadN X121 hx 26 rfl (hb hby own_d2_25) rfl ?_
  refine own_iloadN X121 hx 27 rfl (hb hby own_d2_26) rfl ?_
  refine own_iloadN X121 hx 28 rfl (hb hby own_d2_27) rfl ?_
  refine own_iloadN X121 hx 29 rfl (hb hby own_d2_28) rfl ?_
  refine own_iload X121 hx 31 rfl (hb hby own_d2_29) rfl ?_
  refine own_iload X121 hx 33 rfl (hb hby own_d2_31) rfl ?_
  refine own_aload X121 hx 35 rfl (hb hby own_d2_33) rfl rfl ?_
  refine own_callS X121 hx hZ (y := (⟨"com/example/outpost/outpost/model/DistancesKeepNearerPinLaw", "expF", "(IIIIZI[I)I"⟩ : MethodName)) hown (own_hw hw 20 rfl) (own_hw hw 21 rfl) (by decide) (rm_expF_D l Z a0 hw [] i f r pz g b k2 v2 y h0 n0 Z0 V2 c1 c2 c3 c4 hj hv2) (own_hw hw 22 rfl) (own_hw hw 15 rfl) (by decide) e121 (by rw [hml]; rfl) [(.int i), (.int f), (.int r), (.int pz), (.int (1 : Int32)), (.int g), (.ref b)] 1 (by decide) (Nat.le_of_eq rfl) (by decide) (by decide) (lenOf own_pd1 rfl) rfl rfl 38 rfl (hb hby own_d2_35) fun v123 T123 Lc123 X123 hQ123 => ?_
  obtain ⟨rfl, Nq123, e123⟩ := hQ123
  have N124 := Fr.app N122 Nq123
  show own_Go _ _ _ _ _ (State.setTop _ (mkF _ 38 _ [(.int y), (.int y)]))
  refine own_icmpNo X123 hx 41 rfl (hb hby own_d2_38) (teq rfl).2 ?_
  refine own_iconst X123 hx 42 rfl (hb hby own_d2_41) (1 : Int32) rfl ?_
  refine own_goto X123 hx 46 (hb hby own_d2_42) (by decide) rfl ?_
  refine own_ret X123 (some (.int (1 : Int32))) (fun h => by rw [Bd.returns] at h; cases h) Bd.notSynchronized (by decide) (by decide) ?_ (fun fs hr => retN X123 hx (t := .boolean) Bd.returns (by simp) (hb hby own_d2_46) hr)
  show Q_rm_same_D Z i f r pz d g a b u w k1 k2 k3 k4 v1 v2 v3 v4 x y h0 n0 _ T123.heap _
  rw [e123]
  exact ⟨rfl, N124, rfl⟩
theorem own_pn1 : plainName "com/example/outpost/outpost/model/Distances" = true := by first | (simp [plainName, overriddenIn]; done) | decide +kernel
theorem own_ef_rm_keep_1_0_n (m : MethodId) (g : Int32) (d : UInt64) (u : Addr) (w : Addr) : entryFrame m #[(.int g), (.double d), (.int (0 : Int32)), (.int (1 : Int32)), (.ref u), (.ref w)] 9 = mkF m 0 #[.val (.int g), .val (.double d), .second, .val (.int (0 : Int32)), .val (.int (1 : Int32)), .val (.ref u), .val (.ref w), .unset, .unset] [] := by first | (simp [entryFrame, mkF, argsToLocals, Value.category]; done) | rfl
def Q_rm_keep_1_0_n (Z : State) (g : Int32) (d : UInt64) (u : Addr) (w : Addr) (k3 : ClassId) (k4 : ClassId) (x0 : UInt64) (x1 : UInt64) (x2 : UInt64) (x3 : UInt64) (x4 : UInt64) (x5 : UInt64) (y0 : Int32) (y1 : Int32) (y2 : Int32) (y3 : Int32) (y4 : Int32) (y5 : Int32) (h0 : Heap) (n0 : Nat) (v : Option Value) (h : Heap) (L : List Loc) : Prop := v = some (.int (0 : Int32)) ∧ Fr n0 L ∧ Keep h0 h [u, w] ∧ Arv Z h u k3 .double (6 : Int32) [(.double x0), (.double x1), (.double x2), (.double x3), (.double x4), (.double x5)] (.double (0 : UInt64)) ∧ Arv Z h w k4 .int (6 : Int32) [(.int y0), (.int y1), (.int y2), (.int y3), (.int y4), (.int y5)] (.int (0 : Int32))
theorem own_d1_0 : decode prog_60_method_9_code 0 = .ok (.iload_n 3, 1) := by decide +kernel
theorem own_d1_1 : decode prog_60_method_9_code 1 = .ok (.iload 4, 2) := by decide +kernel
theorem own_d1_3 : decode prog_60_method_9_code 3 = .ok (.imul, 1) := by decide +kernel
theorem own_d1_4 : decode prog_60_method_9_code 4 = .ok (.istore 7, 2) := by decide +kernel
theorem own_d1_6 : decode prog_60_method_9_code 6 = .ok (.iload 7, 2) := by decide +kernel
theorem own_d1_8 : decode prog_60_method_9_code 8 = .ok (.iload 4, 2) := by decide +kernel
theorem own_d1_10 : decode prog_60_method_9_code 10 = .ok (.iadd, 1) := by decide +kernel
theorem own_d1_11 : decode prog_60_method_9_code 11 = .ok (.iconst 1, 1) := by decide +kernel
theorem own_d1_12 : decode prog_60_method_9_code 12 = .ok (.isub, 1) := by decide +kernel
theorem own_d1_13 : decode prog_60_method_9_code 13 = .ok (.istore 8, 2) := by decide +kernel
theorem own_d1_15 : decode prog_60_method_9_code 15 = .ok (.dload_n 1, 1) := by decide +kernel
theorem own_d1_16 : decode prog_60_method_9_code 16 = .ok (.aload 5, 2) := by decide +kernel
theorem own_d1_18 : decode prog_60_method_9_code 18 = .ok (.iload 8, 2) := by decide +kernel
theorem own_d1_20 : decode prog_60_method_9_code 20 = .ok (.daload, 1) := by decide +kernel
theorem own_d1_21 : decode prog_60_method_9_code 21 = .ok (.dcmp .g, 1) := by decide +kernel
theorem own_d1_22 : decode prog_60_method_9_code 22 = .ok (.ifCond .lt 5, 3) := by decide +kernel
theorem own_d1_25 : decode prog_60_method_9_code 25 = .ok (.iconst 0, 1) := by decide +kernel
theorem own_d1_26 : decode prog_60_method_9_code 26 = .ok (.ireturn, 1) := by decide +kernel
set_option maxRecDepth 65536 in
set_option maxHeartbeats 40000000 in
theorem rm_keep_1_0_n (l : Launch) (Z : State) (a0 : Array Value) (hw : ∀ d ∈ tables_1, d.before a0 Z = true) (ws : List Jvm.Cond) (g : Int32) (d : UInt64) (u : Addr) (w : Addr) (k3 : ClassId) (k4 : ClassId) (x0 : UInt64) (x1 : UInt64) (x2 : UInt64) (x3 : UInt64) (x4 : UInt64) (x5 : UInt64) (y0 : Int32) (y1 : Int32) (y2 : Int32) (y3 : Int32) (y4 : Int32) (y5 : Int32) (h0 : Heap) (n0 : Nat) (Z0 : n0 ≤ h0.size) (V1 : Arv Z h0 u k3 .double (6 : Int32) [(.double x0), (.double x1), (.double x2), (.double x3), (.double x4), (.double x5)] (.double (0 : UInt64))) (V2 : Arv Z h0 w k4 .int (6 : Int32) [(.int y0), (.int y1), (.int y2), (.int y3), (.int y4), (.int y5)] (.int (0 : Int32))) (hne : u ≠ w) (gu : n0 ≤ u) (gw : n0 ≤ w) (hl : ¬ cmpValue (FP.dcmp d x0) .g < 0) :
    MetFree l (⟨"com/example/outpost/outpost/model/Distances", "keepNearer", "(IDII[D[I)Z"⟩ : MethodName) (head1 (Jvm.Cond.code (⟨"com/example/outpost/outpost/model/Distances", "keepNearer", "(IDII[D[I)Z"⟩ : MethodName) prog_60_method_9_code 9 (some .boolean) :: ws) ({ frames := 0, cells := 0, slots := 0, locals := 0 } : Room)) (fun aa U => aa = #[(.int g), (.double d), (.int (0 : Int32)), (.int (1 : Int32)), (.ref u), (.ref w)] ∧ Z.Warmed39 U.vm ∧ U.heap = h0) (fun _ _ _ _ _ => True) (fun _ U ou U' => ∃ v L, ou = .returned v ∧ Q_rm_keep_1_0_n Z g d u w k3 k4 x0 x1 x2 x3 x4 x5 y0 y1 y2 y3 y4 y5 h0 n0 v U'.heap L ∧ FrameEnd U ou U' L ({ frames := 0, cells := 0, slots := 0, locals := 0 } : Room).cells ({ frames := 0, cells := 0, slots := 0, locals := 0 } : Room).slots) := by
  refine MetFree.of_bodySF (plainFor_of_name own_pn1) hisR ?_
  intro p e s m args below meth c s₁ Bd hml0 hP hK
  obtain ⟨rfl, hZ, hh⟩ := hP
  have hx := Bd.exec
  have hby := Bd.bytes
  have hml : c.maxLocals = 9 := hml0
  have hown : s.vm.findClass "com/example/outpost/outpost/model/Distances" = some m.cls := findClass_of_methodNamed Bd.named
  have hnm := (name_of_methodNamed Bd.named Bd.method).1
  have X0 : Stand p l e ({ frames := 0, cells := 0, slots := 0, locals := 0 } : Room) s m #[(.int g), (.double d), (.int (0 : Int32)), (.int (1 : Int32)), (.ref u), (.ref w)] below meth c s₁ [] 0 0 := Stand.of_body Bd
  have e0 : s₁.heap = h0 := by rw [← hh, Bd.state]; rfl
  have N0 := Fr.nil n0
  have K0 := Keep.refl h0 [u, w]
  show own_Go p e below (fun o u L => FrameEnd s o u L ({ frames := 0, cells := 0, slots := 0, locals := 0 } : Room).cells ({ frames := 0, cells := 0, slots := 0, locals := 0 } : Room).slots) (Q_rm_keep_1_0_n Z g d u w k3 k4 x0 x1 x2 x3 x4 x5 y0 y1 y2 y3 y4 y5 h0 n0) (s₁.setTop (entryFrame m #[(.int g), (.double d), (.int (0 : Int32)), (.int (1 : Int32)), (.ref u), (.ref w)] 9))
  rw [own_ef_rm_keep_1_0_n m g d u w]
  show own_Go _ _ _ _ _ (State.setTop _ (mkF _ 0 #[.val (.int g), .val (.double d), .second, .val (.int (0 : Int32)), .val (.int (1 : Int32)), .val (.ref u), .val (.ref w), .unset, .unset] []))
  refine own_iloadN X0 hx 1 rfl (hb hby own_d1_0) rfl ?_
  refine own_iload X0 hx 3 rfl (hb hby own_d1_1) rfl ?_
  refine own_imul X0 hx 4 rfl (hb hby own_d1_3) (0 : Int32) rfl ?_
  refine own_istore X0 hx 6 rfl (hb hby own_d1_4) #[.val (.int g), .val (.double d), .second, .val (.int (0 : Int32)), .val (.int (1 : Int32)), .val (.ref u), .val (.ref w), .val (.int (0 : Int32)), .unset] rfl ?_
  refine own_iload X0 hx 8 rfl (hb hby own_d1_6) rfl ?_
  refine own_iload X0 hx 10 rfl (hb hby own_d1_8) rfl ?_
  refine own_iadd X0 hx 11 rfl (hb hby own_d1_10) (1 : Int32) rfl ?_
  refine own_iconst X0 hx 12 rfl (hb hby own_d1_11) (1 : Int32) rfl ?_
  refine own_isub X0 hx 13 rfl (hb hby own_d1_12) (0 : Int32) rfl ?_
  refine own_istore X0 hx 15 rfl (hb hby own_d1_13) #[.val (.int g), .val (.double d), .second, .val (.int (0 : Int32)), .val (.int (1 : Int32)), .val (.ref u), .val (.ref w), .val (.int (0 : Int32)), .val (.int (0 : Int32))] rfl ?_
  refine own_dloadN X0 hx 16 rfl (hb hby own_d1_15) rfl ?_
  refine own_aload X0 hx 18 rfl (hb hby own_d1_16) rfl rfl ?_
  refine own_iload X0 hx 20 rfl (hb hby own_d1_18) rfl ?_
  refine own_ldD X0 hx hZ e0 V1 ⟨by decide, by decide⟩ x0 rfl 21 rfl (hb hby own_d1_20) ?_
  refine own_dcmp X0 hx 22 rfl (hb hby own_d1_21) _ rfl ?_
  refine own_ifNo X0 hx 25 rfl (hb hby own_d1_22) ((if0 _ _).trans (flt hl).1) ?_
  refine own_iconst X0 hx 26 rfl (hb hby own_d1_25) (0 : Int32) rfl ?_
  refine own_ret X0 (some (.int (0 : Int32))) (fun h => by rw [Bd.returns] at h; cases h) Bd.notSynchronized (by decide) (by decide) ?_ (fun fs hr => retN X0 hx (t := .boolean) Bd.returns (by simp) (hb hby own_d1_26) hr)
  show Q_rm_keep_1_0_n Z g d u w k3 k4 x0 x1 x2 x3 x4 x5 y0 y1 y2 y3 y4 y5 h0 n0 _ s₁.heap _
  rw [e0]
  exact ⟨rfl, N0, K0, V1, V2⟩
theorem own_ef_rm_keep_1_0_0 (m : MethodId) (g : Int32) (d : UInt64) (u : Addr) (w : Addr) : entryFrame m #[(.int g), (.double d), (.int (0 : Int32)), (.int (1 : Int32)), (.ref u), (.ref w)] 9 = mkF m 0 #[.val (.int g), .val (.double d), .second, .val (.int (0 : Int32)), .val (.int (1 : Int32)), .val (.ref u), .val (.ref w), .unset, .unset] [] := by first | (simp [entryFrame, mkF, argsToLocals, Value.category]; done) | rfl
def Q_rm_keep_1_0_0 (Z : State) (g : Int32) (d : UInt64) (u : Addr) (w : Addr) (k3 : ClassId) (k4 : ClassId) (x0 : UInt64) (x1 : UInt64) (x2 : UInt64) (x3 : UInt64) (x4 : UInt64) (x5 : UInt64) (y0 : Int32) (y1 : Int32) (y2 : Int32) (y3 : Int32) (y4 : Int32) (y5 : Int32) (h0 : Heap) (n0 : Nat) (v : Option Value) (h : Heap) (L : List Loc) : Prop := v = some (.int (1 : Int32)) ∧ Fr n0 L ∧ Keep h0 h [u, w] ∧ Arv Z h u k3 .double (6 : Int32) [(.double d), (.double x1), (.double x2), (.double x3), (.double x4), (.double x5)] (.double (0 : UInt64)) ∧ Arv Z h w k4 .int (6 : Int32) [(.int g), (.int y1), (.int y2), (.int y3), (.int y4), (.int y5)] (.int (0 : Int32))
theorem own_d1_27 : decode prog_60_method_9_code 27 = .ok (.iload 8, 2) := by decide +kernel
theorem own_d1_29 : decode prog_60_method_9_code 29 = .ok (.iload 7, 2) := by decide +kernel
theorem own_d1_31 : decode prog_60_method_9_code 31 = .ok (.if_icmp .le 45, 3) := by decide +kernel
theorem own_d1_76 : decode prog_60_method_9_code 76 = .ok (.aload 5, 2) := by decide +kernel
theorem own_d1_78 : decode prog_60_method_9_code 78 = .ok (.iload 8, 2) := by decide +kernel
theorem own_d1_80 : decode prog_60_method_9_code 80 = .ok (.dload_n 1, 1) := by decide +kernel
theorem own_d1_81 : decode prog_60_method_9_code 81 = .ok (.dastore, 1) := by decide +kernel
theorem own_d1_82 : decode prog_60_method_9_code 82 = .ok (.aload 6, 2) := by decide +kernel
theorem own_d1_84 : decode prog_60_method_9_code 84 = .ok (.iload 8, 2) := by decide +kernel
theorem own_d1_86 : decode prog_60_method_9_code 86 = .ok (.iload_n 0, 1) := by decide +kernel
theorem own_d1_87 : decode prog_60_method_9_code 87 = .ok (.iastore, 1) := by decide +kernel
theorem own_d1_88 : decode prog_60_method_9_code 88 = .ok (.iconst 1, 1) := by decide +kernel
theorem own_d1_89 : decode prog_60_method_9_code 89 = .ok (.ireturn, 1) := by decide +kernel
set_option maxRecDepth 65536 in
set_option maxHeartbeats 40000000 in
theorem rm_keep_1_0_0 (l : Launch) (Z : State) (a0 : Array Value) (hw : ∀ d ∈ tables_1, d.before a0 Z = true) (ws : List Jvm.Cond) (g : Int32) (d : UInt64) (u : Addr) (w : Addr) (k3 : ClassId) (k4 : ClassId) (x0 : UInt64) (x1 : UInt64) (x2 : UInt64) (x3 : UInt64) (x4 : UInt64) (x5 : UInt64) (y0 : Int32) (y1 : Int32) (y2 : Int32) (y3 : Int32) (y4 : Int32) (y5 : Int32) (h0 : Heap) (n0 : Nat) (Z0 : n0 ≤ h0.size) (V1 : Arv Z h0 u k3 .double (6 : Int32) [(.double x0), (.double x1), (.double x2), (.double x3), (.double x4), (.double x5)] (.double (0 : UInt64))) (V2 : Arv Z h0 w k4 .int (6 : Int32) [(.int y0), (.int y1), (.int y2), (.int y3), (.int y4), (.int y5)] (.int (0 : Int32))) (hne : u ≠ w) (gu : n0 ≤ u) (gw : n0 ≤ w) (hl : cmpValue (FP.dcmp d x0) .g < 0) :
    MetFree l (⟨"com/example/outpost/outpost/model/Distances", "keepNearer", "(IDII[D[I)Z"⟩ : MethodName) (head1 (Jvm.Cond.code (⟨"com/example/outpost/outpost/model/Distances", "keepNearer", "(IDII[D[I)Z"⟩ : MethodName) prog_60_method_9_code 9 (some .boolean) :: ws) ({ frames := 0, cells := 0, slots := 0, locals := 0 } : Room)) (fun aa U => aa = #[(.int g), (.double d), (.int (0 : Int32)), (.int (1 : Int32)), (.ref u), (.ref w)] ∧ Z.Warmed39 U.vm ∧ U.heap = h0) (fun _ _ _ _ _ => True) (fun _ U ou U' => ∃ v L, ou = .returned v ∧ Q_rm_keep_1_0_0 Z g d u w k3 k4 x0 x1 x2 x3 x4 x5 y0 y1 y2 y3 y4 y5 h0 n0 v U'.heap L ∧ FrameEnd U ou U' L ({ frames := 0, cells := 0, slots := 0, locals := 0 } : Room).cells ({ frames := 0, cells := 0, slots := 0, locals := 0 } : Room).slots) := by
  refine MetFree.of_bodySF (plainFor_of_name own_pn1) hisR ?_
  intro p e s m args below meth c s₁ Bd hml0 hP hK
  obtain ⟨rfl, hZ, hh⟩ := hP
  have hx := Bd.exec
  have hby := Bd.bytes
  have hml : c.maxLocals = 9 := hml0
  have hown : s.vm.findClass "com/example/outpost/outpost/model/Distances" = some m.cls := findClass_of_methodNamed Bd.named
  have hnm := (name_of_methodNamed Bd.named Bd.method).1
  have X0 : Stand p l e ({ frames := 0, cells := 0, slots := 0, locals := 0 } : Room) s m #[(.int g), (.double d), (.int (0 : Int32)), (.int (1 : Int32)), (.ref u), (.ref w)] below meth c s₁ [] 0 0 := Stand.of_body Bd
  have e0 : s₁.heap = h0 := by rw [← hh, Bd.state]; rfl
  have N0 := Fr.nil n0
  have K0 := Keep.refl h0 [u, w]
  show own_Go p e below (fun o u L => FrameEnd s o u L ({ frames := 0, cells := 0, slots := 0, locals := 0 } : Room).cells ({ frames := 0, cells := 0, slots := 0, locals := 0 } : Room).slots) (Q_rm_keep_1_0_0 Z g d u w k3 k4 x0 x1 x2 x3 x4 x5 y0 y1 y2 y3 y4 y5 h0 n0) (s₁.setTop (entryFrame m #[(.int g), (.double d), (.int (0 : Int32)), (.int (1 : Int32)), (.ref u), (.ref w)] 9))
  rw [own_ef_rm_keep_1_0_0 m g d u w]
  show own_Go _ _ _ _ _ (State.setTop _ (mkF _ 0 #[.val (.int g), .val (.double d), .second, .val (.int (0 : Int32)), .val (.int (1 : Int32)), .val (.ref u), .val (.ref w), .unset, .unset] []))
  refine own_iloadN X0 hx 1 rfl (hb hby own_d1_0) rfl ?_
  refine own_iload X0 hx 3 rfl (hb hby own_d1_1) rfl ?_
  refine own_imul X0 hx 4 rfl (hb hby own_d1_3) (0 : Int32) rfl ?_
  refine own_istore X0 hx 6 rfl (hb hby own_d1_4) #[.val (.int g), .val (.double d), .second, .val (.int (0 : Int32)), .val (.int (1 : Int32)), .val (.ref u), .val (.ref w), .val (.int (0 : Int32)), .unset] rfl ?_
  refine own_iload X0 hx 8 rfl (hb hby own_d1_6) rfl ?_
  refine own_iload X0 hx 10 rfl (hb hby own_d1_8) rfl ?_
  refine own_iadd X0 hx 11 rfl (hb hby own_d1_10) (1 : Int32) rfl ?_
  refine own_iconst X0 hx 12 rfl (hb hby own_d1_11) (1 : Int32) rfl ?_
  refine own_isub X0 hx 13 rfl (hb hby own_d1_12) (0 : Int32) rfl ?_
  refine own_istore X0 hx 15 rfl (hb hby own_d1_13) #[.val (.int g), .val (.double d), .second, .val (.int (0 : Int32)), .val (.int (1 : Int32)), .val (.ref u), .val (.ref w), .val (.int (0 : Int32)), .val (.int (0 : Int32))] rfl ?_
  refine own_dloadN X0 hx 16 rfl (hb hby own_d1_15) rfl ?_
  refine own_aload X0 hx 18 rfl (hb hby own_d1_16) rfl rfl ?_
  refine own_iload X0 hx 20 rfl (hb hby own_d1_18) rfl ?_
  refine own_ldD X0 hx hZ e0 V1 ⟨by decide, by decide⟩ x0 rfl 21 rfl (hb hby own_d1_20) ?_
  refine own_dcmp X0 hx 22 rfl (hb hby own_d1_21) _ rfl ?_
  refine own_ifYes X0 hx 27 (hb hby own_d1_22) ((if0 _ _).trans (tlt hl).1) (by decide) rfl ?_
  refine own_iload X0 hx 29 rfl (hb hby own_d1_27) rfl ?_
  refine own_iload X0 hx 31 rfl (hb hby own_d1_29) rfl ?_
  refine own_icmpYes X0 hx 76 (hb hby own_d1_31) (by decide) (by decide) rfl ?_
  refine own_aload X0 hx 78 rfl (hb hby own_d1_76) rfl rfl ?_
  refine own_iload X0 hx 80 rfl (hb hby own_d1_78) rfl ?_
  refine own_dloadN X0 hx 81 rfl (hb hby own_d1_80) rfl ?_
  refine own_stD X0 hx hZ e0 V1 ⟨by decide, by decide⟩ 0 rfl (Nat.le_of_ble_eq_true rfl) [(.double d), (.double x1), (.double x2), (.double x3), (.double x4), (.double x5)] rfl 82 rfl (hb hby own_d1_81) fun T125 h125 X125 e125 W125 f126 => ?_
  have f127 := V2.other W125 (Ne.symm hne)
  have z128 := Nat.le_trans Z0 (Keep.of_wr W125).1
  have K129 := K0.wr W125 (Or.inl (List.mem_of_getElem? (i := 0) rfl))
  have N130 := Fr.snoc X125 N0 gu
  refine own_aload X125 hx 84 rfl (hb hby own_d1_82) rfl rfl ?_
  refine own_iload X125 hx 86 rfl (hb hby own_d1_84) rfl ?_
  refine own_iloadN X125 hx 87 rfl (hb hby own_d1_86) rfl ?_
  refine own_stI X125 hx hZ e125 f127 ⟨by decide, by decide⟩ 0 rfl (Nat.le_of_ble_eq_true rfl) [(.int g), (.int y1), (.int y2), (.int y3), (.int y4), (.int y5)] rfl 88 rfl (hb hby own_d1_87) fun T131 h131 X131 e131 W131 f132 => ?_
  have f133 := f126.other W131 hne
  have z134 := Nat.le_trans z128 (Keep.of_wr W131).1
  have K135 := K129.wr W131 (Or.inl (List.mem_of_getElem? (i := 1) rfl))
  have N136 := Fr.snoc X131 N130 gw
  refine own_iconst X131 hx 89 rfl (hb hby own_d1_88) (1 : Int32) rfl ?_
  refine own_ret X131 (some (.int (1 : Int32))) (fun h => by rw [Bd.returns] at h; cases h) Bd.notSynchronized (by decide) (by decide) ?_ (fun fs hr => retN X131 hx (t := .boolean) Bd.returns (by simp) (hb hby own_d1_89) hr)
  show Q_rm_keep_1_0_0 Z g d u w k3 k4 x0 x1 x2 x3 x4 x5 y0 y1 y2 y3 y4 y5 h0 n0 _ T131.heap _
  rw [e131]
  exact ⟨rfl, N136, K135, f133, f132⟩
theorem own_ef_rm_keep_1_1_n (m : MethodId) (g : Int32) (d : UInt64) (u : Addr) (w : Addr) : entryFrame m #[(.int g), (.double d), (.int (1 : Int32)), (.int (1 : Int32)), (.ref u), (.ref w)] 9 = mkF m 0 #[.val (.int g), .val (.double d), .second, .val (.int (1 : Int32)), .val (.int (1 : Int32)), .val (.ref u), .val (.ref w), .unset, .unset] [] := by first | (simp [entryFrame, mkF, argsToLocals, Value.category]; done) | rfl
def Q_rm_keep_1_1_n (Z : State) (g : Int32) (d : UInt64) (u : Addr) (w : Addr) (k3 : ClassId) (k4 : ClassId) (x0 : UInt64) (x1 : UInt64) (x2 : UInt64) (x3 : UInt64) (x4 : UInt64) (x5 : UInt64) (y0 : Int32) (y1 : Int32) (y2 : Int32) (y3 : Int32) (y4 : Int32) (y5 : Int32) (h0 : Heap) (n0 : Nat) (v : Option Value) (h : Heap) (L : List Loc) : Prop := v = some (.int (0 : Int32)) ∧ Fr n0 L ∧ Keep h0 h [u, w] ∧ Arv Z h u k3 .double (6 : Int32) [(.double x0), (.double x1), (.double x2), (.double x3), (.double x4), (.double x5)] (.double (0 : UInt64)) ∧ Arv Z h w k4 .int (6 : Int32) [(.int y0), (.int y1), (.int y2), (.int y3), (.int y4), (.int y5)] (.int (0 : Int32))
set_option maxRecDepth 65536 in
set_option maxHeartbeats 40000000 in
theorem rm_keep_1_1_n (l : Launch) (Z : State) (a0 : Array Value) (hw : ∀ d ∈ tables_1, d.before a0 Z = true) (ws : List Jvm.Cond) (g : Int32) (d : UInt64) (u : Addr) (w : Addr) (k3 : ClassId) (k4 : ClassId) (x0 : UInt64) (x1 : UInt64) (x2 : UInt64) (x3 : UInt64) (x4 : UInt64) (x5 : UInt64) (y0 : Int32) (y1 : Int32) (y2 : Int32) (y3 : Int32) (y4 : Int32) (y5 : Int32) (h0 : Heap) (n0 : Nat) (Z0 : n0 ≤ h0.size) (V1 : Arv Z h0 u k3 .double (6 : Int32) [(.double x0), (.double x1), (.double x2), (.double x3), (.double x4), (.double x5)] (.double (0 : UInt64))) (V2 : Arv Z h0 w k4 .int (6 : Int32) [(.int y0), (.int y1), (.int y2), (.int y3), (.int y4), (.int y5)] (.int (0 : Int32))) (hne : u ≠ w) (gu : n0 ≤ u) (gw : n0 ≤ w) (hl : ¬ cmpValue (FP.dcmp d x1) .g < 0) :
    MetFree l (⟨"com/example/outpost/outpost/model/Distances", "keepNearer", "(IDII[D[I)Z"⟩ : MethodName) (head1 (Jvm.Cond.code (⟨"com/example/outpost/outpost/model/Distances", "keepNearer", "(IDII[D[I)Z"⟩ : MethodName) prog_60_method_9_code 9 (some .boolean) :: ws) ({ frames := 0, cells := 0, slots := 0, locals := 0 } : Room)) (fun aa U => aa = #[(.int g), (.double d), (.int (1 : Int32)), (.int (1 : Int32)), (.ref u), (.ref w)] ∧ Z.Warmed39 U.vm ∧ U.heap = h0) (fun _ _ _ _ _ => True) (fun _ U ou U' => ∃ v L, ou = .returned v ∧ Q_rm_keep_1_1_n Z g d u w k3 k4 x0 x1 x2 x3 x4 x5 y0 y1 y2 y3 y4 y5 h0 n0 v U'.heap L ∧ FrameEnd U ou U' L ({ frames := 0, cells := 0, slots := 0, locals := 0 } : Room).cells ({ frames := 0, cells := 0, slots := 0, locals := 0 } : Room).slots) := by
  refine MetFree.of_bodySF (plainFor_of_name own_pn1) hisR ?_
  intro p e s m args below meth c s₁ Bd hml0 hP hK
  obtain ⟨rfl, hZ, hh⟩ := hP
  have hx := Bd.exec
  have hby := Bd.bytes
  have hml : c.maxLocals = 9 := hml0
  have hown : s.vm.findClass "com/example/outpost/outpost/model/Distances" = some m.cls := findClass_of_methodNamed Bd.named
  have hnm := (name_of_methodNamed Bd.named Bd.method).1
  have X0 : Stand p l e ({ frames := 0, cells := 0, slots := 0, locals := 0 } : Room) s m #[(.int g), (.double d), (.int (1 : Int32)), (.int (1 : Int32)), (.ref u), (.ref w)] below meth c s₁ [] 0 0 := Stand.of_body Bd
  have e0 : s₁.heap = h0 := by rw [← hh, Bd.state]; rfl
  have N0 := Fr.nil n0
  have K0 := Keep.refl h0 [u, w]
  show own_Go p e below (fun o u L => FrameEnd s o u L ({ frames := 0, cells := 0, slots := 0, locals := 0 } : Room).cells ({ frames := 0, cells := 0, slots := 0, locals := 0 } : Room).slots) (Q_rm_keep_1_1_n Z g d u w k3 k4 x0 x1 x2 x3 x4 x5 y0 y1 y2 y3 y4 y5 h0 n0) (s₁.setTop (entryFrame m #[(.int g), (.double d), (.int (1 : Int32)), (.int (1 : Int32)), (.ref u), (.ref w)] 9))
  rw [own_ef_rm_keep_1_1_n m g d u w]
  show own_Go _ _ _ _ _ (State.setTop _ (mkF _ 0 #[.val (.int g), .val (.double d), .second, .val (.int (1 : Int32)), .val (.int (1 : Int32)), .val (.ref u), .val (.ref w), .unset, .unset] []))
  refine own_iloadN X0 hx 1 rfl (hb hby own_d1_0) rfl ?_
  refine own_iload X0 hx 3 rfl (hb hby own_d1_1) rfl ?_
  refine own_imul X0 hx 4 rfl (hb hby own_d1_3) (1 : Int32) rfl ?_
  refine own_istore X0 hx 6 rfl (hb hby own_d1_4) #[.val (.int g), .val (.double d), .second, .val (.int (1 : Int32)), .val (.int (1 : Int32)), .val (.ref u), .val (.ref w), .val (.int (1 : Int32)), .unset] rfl ?_
  refine own_iload X0 hx 8 rfl (hb hby own_d1_6) rfl ?_
  refine own_iload X0 hx 10 rfl (hb hby own_d1_8) rfl ?_
  refine own_iadd X0 hx 11 rfl (hb hby own_d1_10) (2 : Int32) rfl ?_
  refine own_iconst X0 hx 12 rfl (hb hby own_d1_11) (1 : Int32) rfl ?_
  refine own_isub X0 hx 13 rfl (hb hby own_d1_12) (1 : Int32) rfl ?_
  refine own_istore X0 hx 15 rfl (hb hby own_d1_13) #[.val (.int g), .val (.double d), .second, .val (.int (1 : Int32)), .val (.int (1 : Int32)), .val (.ref u), .val (.ref w), .val (.int (1 : Int32)), .val (.int (1 : Int32))] rfl ?_
  refine own_dloadN X0 hx 16 rfl (hb hby own_d1_15) rfl ?_
  refine own_aload X0 hx 18 rfl (hb hby own_d1_16) rfl rfl ?_
  refine own_iload X0 hx 20 rfl (hb hby own_d1_18) rfl ?_
  refine own_ldD X0 hx hZ e0 V1 ⟨by decide, by decide⟩ x1 rfl 21 rfl (hb hby own_d1_20) ?_
  refine own_dcmp X0 hx 22 rfl (hb hby own_d1_21) _ rfl ?_
  refine own_ifNo X0 hx 25 rfl (hb hby own_d1_22) ((if0 _ _).trans (flt hl).1) ?_
  refine own_iconst X0 hx 26 rfl (hb hby own_d1_25) (0 : Int32) rfl ?_
  refine own_ret X0 (some (.int (0 : Int32))) (fun h => by rw [Bd.returns] at h; cases h) Bd.notSynchronized (by decide) (by decide) ?_ (fun fs hr => retN X0 hx (t := .boolean) Bd.returns (by simp) (hb hby own_d1_26) hr)
  show Q_rm_keep_1_1_n Z g d u w k3 k4 x0 x1 x2 x3 x4 x5 y0 y1 y2 y3 y4 y5 h0 n0 _ s₁.heap _
  rw [e0]
  exact ⟨rfl, N0, K0, V1, V2⟩
theorem own_ef_rm_keep_1_1_0 (m : MethodId) (g : Int32) (d : UInt64) (u : Addr) (w : Addr) : entryFrame m #[(.int g), (.double d), (.int (1 : Int32)), (.int (1 : Int32)), (.ref u), (.ref w)] 9 = mkF m 0 #[.val (.int g), .val (.double d), .second, .val (.int (1 : Int32)), .val (.int (1 : Int32)), .val (.ref u), .val (.ref w), .unset, .unset] [] := by first | (simp [entryFrame, mkF, argsToLocals, Value.category]; done) | rfl
def Q_rm_keep_1_1_0 (Z : State) (g : Int32) (d : UInt64) (u : Addr) (w : Addr) (k3 : ClassId) (k4 : ClassId) (x0 : UInt64) (x1 : UInt64) (x2 : UInt64) (x3 : UInt64) (x4 : UInt64) (x5 : UInt64) (y0 : Int32) (y1 : Int32) (y2 : Int32) (y3 : Int32) (y4 : Int32) (y5 : Int32) (h0 : Heap) (n0 : Nat) (v : Option Value) (h : Heap) (L : List Loc) : Prop := v = some (.int (1 : Int32)) ∧ Fr n0 L ∧ Keep h0 h [u, w] ∧ Arv Z h u k3 .double (6 : Int32) [(.double x0), (.double d), (.double x2), (.double x3), (.double x4), (.double x5)] (.double (0 : UInt64)) ∧ Arv Z h w k4 .int (6 : Int32) [(.int y0), (.int g), (.int y2), (.int y3), (.int y4), (.int y5)] (.int (0 : Int32))
set_option maxRecDepth 65536 in
set_option maxHeartbeats 40000000 in
theorem rm_keep_1_1_0 (l : Launch) (Z : State) (a0 : Array Value) (hw : ∀ d ∈ tables_1, d.before a0 Z = true) (ws : List Jvm.Cond) (g : Int32) (d : UInt64) (u : Addr) (w : Addr) (k3 : ClassId) (k4 : ClassId) (x0 : UInt64) (x1 : UInt64) (x2 : UInt64) (x3 : UInt64) (x4 : UInt64) (x5 : UInt64) (y0 : Int32) (y1 : Int32) (y2 : Int32) (y3 : Int32) (y4 : Int32) (y5 : Int32) (h0 : Heap) (n0 : Nat) (Z0 : n0 ≤ h0.size) (V1 : Arv Z h0 u k3 .double (6 : Int32) [(.double x0), (.double x1), (.double x2), (.double x3), (.double x4), (.double x5)] (.double (0 : UInt64))) (V2 : Arv Z h0 w k4 .int (6 : Int32) [(.int y0), (.int y1), (.int y2), (.int y3), (.int y4), (.int y5)] (.int (0 : Int32))) (hne : u ≠ w) (gu : n0 ≤ u) (gw : n0 ≤ w) (hl : cmpValue (FP.dcmp d x1) .g < 0) :
    MetFree l (⟨"com/example/outpost/outpost/model/Distances", "keepNearer", "(IDII[D[I)Z"⟩ : MethodName) (head1 (Jvm.Cond.code (⟨"com/example/outpost/outpost/model/Distances", "keepNearer", "(IDII[D[I)Z"⟩ : MethodName) prog_60_method_9_code 9 (some .boolean) :: ws) ({ frames := 0, cells := 0, slots := 0, locals := 0 } : Room)) (fun aa U => aa = #[(.int g), (.double d), (.int (1 : Int32)), (.int (1 : Int32)), (.ref u), (.ref w)] ∧ Z.Warmed39 U.vm ∧ U.heap = h0) (fun _ _ _ _ _ => True) (fun _ U ou U' => ∃ v L, ou = .returned v ∧ Q_rm_keep_1_1_0 Z g d u w k3 k4 x0 x1 x2 x3 x4 x5 y0 y1 y2 y3 y4 y5 h0 n0 v U'.heap L ∧ FrameEnd U ou U' L ({ frames := 0, cells := 0, slots := 0, locals := 0 } : Room).cells ({ frames := 0, cells := 0, slots := 0, locals := 0 } : Room).slots) := by
  refine MetFree.of_bodySF (plainFor_of_name own_pn1) hisR ?_
  intro p e s m args below meth c s₁ Bd hml0 hP hK
  obtain ⟨rfl, hZ, hh⟩ := hP
  have hx := Bd.exec
  have hby := Bd.bytes
  have hml : c.maxLocals = 9 := hml0
  have hown : s.vm.findClass "com/example/outpost/outpost/model/Distances" = some m.cls := findClass_of_methodNamed Bd.named
  have hnm := (name_of_methodNamed Bd.named Bd.method).1
  have X0 : Stand p l e ({ frames := 0, cells := 0, slots := 0, locals := 0 } : Room) s m #[(.int g), (.double d), (.int (1 : Int32)), (.int (1 : Int32)), (.ref u), (.ref w)] below meth c s₁ [] 0 0 := Stand.of_body Bd
  have e0 : s₁.heap = h0 := by rw [← hh, Bd.state]; rfl
  have N0 := Fr.nil n0
  have K0 := Keep.refl h0 [u, w]
  show own_Go p e below (fun o u L => FrameEnd s o u L ({ frames := 0, cells := 0, slots := 0, locals := 0 } : Room).cells ({ frames := 0, cells := 0, slots := 0, locals := 0 } : Room).slots) (Q_rm_keep_1_1_0 Z g d u w k3 k4 x0 x1 x2 x3 x4 x5 y0 y1 y2 y3 y4 y5 h0 n0) (s₁.setTop (entryFrame m #[(.int g), (.double d), (.int (1 : Int32)), (.int (1 : Int32)), (.ref u), (.ref w)] 9))
  rw [own_ef_rm_keep_1_1_0 m g d u w]
  show own_Go _ _ _ _ _ (State.setTop _ (mkF _ 0 #[.val (.int g), .val (.double d), .second, .val (.int (1 : Int32)), .val (.int (1 : Int32)), .val (.ref u), .val (.ref w), .unset, .unset] []))
  refine own_iloadN X0 hx 1 rfl (hb hby own_d1_0) rfl ?_
  refine own_iload X0 hx 3 rfl (hb hby own_d1_1) rfl ?_
  refine own_imul X0 hx 4 rfl (hb hby own_d1_3) (1 : Int32) rfl ?_
  refine own_istore X0 hx 6 rfl (hb hby own_d1_4) #[.val (.int g), .val (.double d), .second, .val (.int (1 : Int32)), .val (.int (1 : Int32)), .val (.ref u), .val (.ref w), .val (.int (1 : Int32)), .unset] rfl ?_
  refine own_iload X0 hx 8 rfl (hb hby own_d1_6) rfl ?_
  refine own_iload X0 hx 10 rfl (hb hby own_d1_8) rfl ?_
  refine own_iadd X0 hx 11 rfl (hb hby own_d1_10) (2 : Int32) rfl ?_
  refine own_iconst X0 hx 12 rfl (hb hby own_d1_11) (1 : Int32) rfl ?_
  refine own_isub X0 hx 13 rfl (hb hby own_d1_12) (1 : Int32) rfl ?_
  refine own_istore X0 hx 15 rfl (hb hby own_d1_13) #[.val (.int g), .val (.double d), .second, .val (.int (1 : Int32)), .val (.int (1 : Int32)), .val (.ref u), .val (.ref w), .val (.int (1 : Int32)), .val (.int (1 : Int32))] rfl ?_
  refine own_dloadN X0 hx 16 rfl (hb hby own_d1_15) rfl ?_
  refine own_aload X0 hx 18 rfl (hb hby own_d1_16) rfl rfl ?_
  refine own_iload X0 hx 20 rfl (hb hby own_d1_18) rfl ?_
  refine own_ldD X0 hx hZ e0 V1 ⟨by decide, by decide⟩ x1 rfl 21 rfl (hb hby own_d1_20) ?_
  refine own_dcmp X0 hx 22 rfl (hb hby own_d1_21) _ rfl ?_
  refine own_ifYes X0 hx 27 (hb hby own_d1_22) ((if0 _ _).trans (tlt hl).1) (by decide) rfl ?_
  refine own_iload X0 hx 29 rfl (hb hby own_d1_27) rfl ?_
  refine own_iload X0 hx 31 rfl (hb hby own_d1_29) rfl ?_
  refine own_icmpYes X0 hx 76 (hb hby own_d1_31) (by decide) (by decide) rfl ?_
  refine own_aload X0 hx 78 rfl (hb hby own_d1_76) rfl rfl ?_
  refine own_iload X0 hx 80 rfl (hb hby own_d1_78) rfl ?_
  refine own_dloadN X0 hx 81 rfl (hb hby own_d1_80) rfl ?_
  refine own_stD X0 hx hZ e0 V1 ⟨by decide, by decide⟩ 1 rfl (Nat.le_of_ble_eq_true rfl) [(.double x0), (.double d), (.double x2), (.double x3), (.double x4), (.double x5)] rfl 82 rfl (hb hby own_d1_81) fun T137 h137 X137 e137 W137 f138 => ?_
  have f139 := V2.other W137 (Ne.symm hne)
  have z140 := Nat.le_trans Z0 (Keep.of_wr W137).1
  have K141 := K0.wr W137 (Or.inl (List.mem_of_getElem? (i := 0) rfl))
  have N142 := Fr.snoc X137 N0 gu
  refine own_aload X137 hx 84 rfl (hb hby own_d1_82) rfl rfl ?_
  refine own_iload X137 hx 86 rfl (hb hby own_d1_84) rfl ?_
  refine own_iloadN X137 hx 87 rfl (hb hby own_d1_86) rfl ?_
  refine own_stI X137 hx hZ e137 f139 ⟨by decide, by decide⟩ 1 rfl (Nat.le_of_ble_eq_true rfl) [(.int y0), (.int g), (.int y2), (.int y3), (.int y4), (.int y5)] rfl 88 rfl (hb hby own_d1_87) fun T143 h143 X143 e143 W143 f144 => ?_
  have f145 := f138.other W143 hne
  have z146 := Nat.le_trans z140 (Keep.of_wr W143).1
  have K147 := K141.wr W143 (Or.inl (List.mem_of_getElem? (i := 1) rfl))
  have N148 := Fr.snoc X143 N142 gw
  refine own_iconst X143 hx 89 rfl (hb hby own_d1_88) (1 : Int32) rfl ?_
  refine own_ret X143 (some (.int (1 : Int32))) (fun h => by rw [Bd.returns] at h; cases h) Bd.notSynchronized (by decide) (by decide) ?_ (fun fs hr => retN X143 hx (t := .boolean) Bd.returns (by simp) (hb hby own_d1_89) hr)
  show Q_rm_keep_1_1_0 Z g d u w k3 k4 x0 x1 x2 x3 x4 x5 y0 y1 y2 y3 y4 y5 h0 n0 _ T143.heap _
  rw [e143]
  exact ⟨rfl, N148, K147, f145, f144⟩
theorem own_ef_rm_keep_2_0_n (m : MethodId) (g : Int32) (d : UInt64) (u : Addr) (w : Addr) : entryFrame m #[(.int g), (.double d), (.int (0 : Int32)), (.int (2 : Int32)), (.ref u), (.ref w)] 9 = mkF m 0 #[.val (.int g), .val (.double d), .second, .val (.int (0 : Int32)), .val (.int (2 : Int32)), .val (.ref u), .val (.ref w), .unset, .unset] [] := by first | (simp [entryFrame, mkF, argsToLocals, Value.category]; done) | rfl
def Q_rm_keep_2_0_n (Z : State) (g : Int32) (d : UInt64) (u : Addr) (w : Addr) (k3 : ClassId) (k4 : ClassId) (x0 : UInt64) (x1 : UInt64) (x2 : UInt64) (x3 : UInt64) (x4 : UInt64) (x5 : UInt64) (y0 : Int32) (y1 : Int32) (y2 : Int32) (y3 : Int32) (y4 : Int32) (y5 : Int32) (h0 : Heap) (n0 : Nat) (v : Option Value) (h : Heap) (L : List Loc) : Prop := v = some (.int (0 : Int32)) ∧ Fr n0 L ∧ Keep h0 h [u, w] ∧ Arv Z h u k3 .double (6 : Int32) [(.double x0), (.double x1), (.double x2), (.double x3), (.double x4), (.double x5)] (.double (0 : UInt64)) ∧ Arv Z h w k4 .int (6 : Int32) [(.int y0), (.int y1), (.int y2), (.int y3), (.int y4), (.int y5)] (.int (0 : Int32))
set_option maxRecDepth 65536 in
set_option maxHeartbeats 40000000 in
theorem rm_keep_2_0_n (l : Launch) (Z : State) (a0 : Array Value) (hw : ∀ d ∈ tables_1, d.before a0 Z = true) (ws : List Jvm.Cond) (g : Int32) (d : UInt64) (u : Addr) (w : Addr) (k3 : ClassId) (k4 : ClassId) (x0 : UInt64) (x1 : UInt64) (x2 : UInt64) (x3 : UInt64) (x4 : UInt64) (x5 : UInt64) (y0 : Int32) (y1 : Int32) (y2 : Int32) (y3 : Int32) (y4 : Int32) (y5 : Int32) (h0 : Heap) (n0 : Nat) (Z0 : n0 ≤ h0.size) (V1 : Arv Z h0 u k3 .double (6 : Int32) [(.double x0), (.double x1), (.double x2), (.double x3), (.double x4), (.double x5)] (.double (0 : UInt64))) (V2 : Arv Z h0 w k4 .int (6 : Int32) [(.int y0), (.int y1), (.int y2), (.int y3), (.int y4), (.int y5)] (.int (0 : Int32))) (hne : u ≠ w) (gu : n0 ≤ u) (gw : n0 ≤ w) (hl : ¬ cmpValue (FP.dcmp d x1) .g < 0) :
    MetFree l (⟨"com/example/outpost/outpost/model/Distances", "keepNearer", "(IDII[D[I)Z"⟩ : MethodName) (head1 (Jvm.Cond.code (⟨"com/example/outpost/outpost/model/Distances", "keepNearer", "(IDII[D[I)Z"⟩ : MethodName) prog_60_method_9_code 9 (some .boolean) :: ws) ({ frames := 0, cells := 0, slots := 0, locals := 0 } : Room)) (fun aa U => aa = #[(.int g), (.double d), (.int (0 : Int32)), (.int (2 : Int32)), (.ref u), (.ref w)] ∧ Z.Warmed39 U.vm ∧ U.heap = h0) (fun _ _ _ _ _ => True) (fun _ U ou U' => ∃ v L, ou = .returned v ∧ Q_rm_keep_2_0_n Z g d u w k3 k4 x0 x1 x2 x3 x4 x5 y0 y1 y2 y3 y4 y5 h0 n0 v U'.heap L ∧ FrameEnd U ou U' L ({ frames := 0, cells := 0, slots := 0, locals := 0 } : Room).cells ({ frames := 0, cells := 0, slots := 0, locals := 0 } : Room).slots) := by
  refine MetFree.of_bodySF (plainFor_of_name own_pn1) hisR ?_
  intro p e s m args below meth c s₁ Bd hml0 hP hK
  obtain ⟨rfl, hZ, hh⟩ := hP
  have hx := Bd.exec
  have hby := Bd.bytes
  have hml : c.maxLocals = 9 := hml0
  have hown : s.vm.findClass "com/example/outpost/outpost/model/Distances" = some m.cls := findClass_of_methodNamed Bd.named
  have hnm := (name_of_methodNamed Bd.named Bd.method).1
  have X0 : Stand p l e ({ frames := 0, cells := 0, slots := 0, locals := 0 } : Room) s m #[(.int g), (.double d), (.int (0 : Int32)), (.int (2 : Int32)), (.ref u), (.ref w)] below meth c s₁ [] 0 0 := Stand.of_body Bd
  have e0 : s₁.heap = h0 := by rw [← hh, Bd.state]; rfl
  have N0 := Fr.nil n0
  have K0 := Keep.refl h0 [u, w]
  show own_Go p e below (fun o u L => FrameEnd s o u L ({ frames := 0, cells := 0, slots := 0, locals := 0 } : Room).cells ({ frames := 0, cells := 0, slots := 0, locals := 0 } : Room).slots) (Q_rm_keep_2_0_n Z g d u w k3 k4 x0 x1 x2 x3 x4 x5 y0 y1 y2 y3 y4 y5 h0 n0) (s₁.setTop (entryFrame m #[(.int g), (.double d), (.int (0 : Int32)), (.int (2 : Int32)), (.ref u), (.ref w)] 9))
  rw [own_ef_rm_keep_2_0_n m g d u w]
  show own_Go _ _ _ _ _ (State.setTop _ (mkF _ 0 #[.val (.int g), .val (.double d), .second, .val (.int (0 : Int32)), .val (.int (2 : Int32)), .val (.ref u), .val (.ref w), .unset, .unset] []))
  refine own_iloadN X0 hx 1 rfl (hb hby own_d1_0) rfl ?_
  refine own_iload X0 hx 3 rfl (hb hby own_d1_1) rfl ?_
  refine own_imul X0 hx 4 rfl (hb hby own_d1_3) (0 : Int32) rfl ?_
  refine own_istore X0 hx 6 rfl (hb hby own_d1_4) #[.val (.int g), .val (.double d), .second, .val (.int (0 : Int32)), .val (.int (2 : Int32)), .val (.ref u), .val (.ref w), .val (.int (0 : Int32)), .unset] rfl ?_
  refine own_iload X0 hx 8 rfl (hb hby own_d1_6) rfl ?_
  refine own_iload X0 hx 10 rfl (hb hby own_d1_8) rfl ?_
  refine own_iadd X0 hx 11 rfl (hb hby own_d1_10) (2 : Int32) rfl ?_
  refine own_iconst X0 hx 12 rfl (hb hby own_d1_11) (1 : Int32) rfl ?_
  refine own_isub X0 hx 13 rfl (hb hby own_d1_12) (1 : Int32) rfl ?_
  refine own_istore X0 hx 15 rfl (hb hby own_d1_13) #[.val (.int g), .val (.double d), .second, .val (.int (0 : Int32)), .val (.int (2 : Int32)), .val (.ref u), .val (.ref w), .val (.int (0 : Int32)), .val (.int (1 : Int32))] rfl ?_
  refine own_dloadN X0 hx 16 rfl (hb hby own_d1_15) rfl ?_
  refine own_aload X0 hx 18 rfl (hb hby own_d1_16) rfl rfl ?_
  refine own_iload X0 hx 20 rfl (hb hby own_d1_18) rfl ?_
  refine own_ldD X0 hx hZ e0 V1 ⟨by decide, by decide⟩ x1 rfl 21 rfl (hb hby own_d1_20) ?_
  refine own_dcmp X0 hx 22 rfl (hb hby own_d1_21) _ rfl ?_
  refine own_ifNo X0 hx 25 rfl (hb hby own_d1_22) ((if0 _ _).trans (flt hl).1) ?_
  refine own_iconst X0 hx 26 rfl (hb hby own_d1_25) (0 : Int32) rfl ?_
  refine own_ret X0 (some (.int (0 : Int32))) (fun h => by rw [Bd.returns] at h; cases h) Bd.notSynchronized (by decide) (by decide) ?_ (fun fs hr => retN X0 hx (t := .boolean) Bd.returns (by simp) (hb hby own_d1_26) hr)
  show Q_rm_keep_2_0_n Z g d u w k3 k4 x0 x1 x2 x3 x4 x5 y0 y1 y2 y3 y4 y5 h0 n0 _ s₁.heap _
  rw [e0]
  exact ⟨rfl, N0, K0, V1, V2⟩
theorem own_ef_rm_keep_2_0_0 (m : MethodId) (g : Int32) (d : UInt64) (u : Addr) (w : Addr) : entryFrame m #[(.int g), (.double d), (.int (0 : Int32)), (.int (2 : Int32)), (.ref u), (.ref w)] 9 = mkF m 0 #[.val (.int g), .val (.double d), .second, .val (.int (0 : Int32)), .val (.int (2 : Int32)), .val (.ref u), .val (.ref w), .unset, .unset] [] := by first | (simp [entryFrame, mkF, argsToLocals, Value.category]; done) | rfl
def Q_rm_keep_2_0_0 (Z : State) (g : Int32) (d : UInt64) (u : Addr) (w : Addr) (k3 : ClassId) (k4 : ClassId) (x0 : UInt64) (x1 : UInt64) (x2 : UInt64) (x3 : UInt64) (x4 : UInt64) (x5 : UInt64) (y0 : Int32) (y1 : Int32) (y2 : Int32) (y3 : Int32) (y4 : Int32) (y5 : Int32) (h0 : Heap) (n0 : Nat) (v : Option Value) (h : Heap) (L : List Loc) : Prop := v = some (.int (1 : Int32)) ∧ Fr n0 L ∧ Keep h0 h [u, w] ∧ Arv Z h u k3 .double (6 : Int32) [(.double d), (.double x0), (.double x2), (.double x3), (.double x4), (.double x5)] (.double (0 : UInt64)) ∧ Arv Z h w k4 .int (6 : Int32) [(.int g), (.int y0), (.int y2), (.int y3), (.int y4), (.int y5)] (.int (0 : Int32))
theorem own_d1_34 : decode prog_60_method_9_code 34 = .ok (.aload 5, 2) := by decide +kernel
theorem own_d1_36 : decode prog_60_method_9_code 36 = .ok (.iload 8, 2) := by decide +kernel
theorem own_d1_38 : decode prog_60_method_9_code 38 = .ok (.iconst 1, 1) := by decide +kernel
theorem own_d1_39 : decode prog_60_method_9_code 39 = .ok (.isub, 1) := by decide +kernel
theorem own_d1_40 : decode prog_60_method_9_code 40 = .ok (.daload, 1) := by decide +kernel
theorem own_d1_41 : decode prog_60_method_9_code 41 = .ok (.dload_n 1, 1) := by decide +kernel
theorem own_d1_42 : decode prog_60_method_9_code 42 = .ok (.dcmp .l, 1) := by decide +kernel
theorem own_d1_43 : decode prog_60_method_9_code 43 = .ok (.ifCond .le 33, 3) := by decide +kernel
theorem own_d1_46 : decode prog_60_method_9_code 46 = .ok (.aload 5, 2) := by decide +kernel
theorem own_d1_48 : decode prog_60_method_9_code 48 = .ok (.iload 8, 2) := by decide +kernel
theorem own_d1_50 : decode prog_60_method_9_code 50 = .ok (.aload 5, 2) := by decide +kernel
theorem own_d1_52 : decode prog_60_method_9_code 52 = .ok (.iload 8, 2) := by decide +kernel
theorem own_d1_54 : decode prog_60_method_9_code 54 = .ok (.iconst 1, 1) := by decide +kernel
theorem own_d1_55 : decode prog_60_method_9_code 55 = .ok (.isub, 1) := by decide +kernel
theorem own_d1_56 : decode prog_60_method_9_code 56 = .ok (.daload, 1) := by decide +kernel
theorem own_d1_57 : decode prog_60_method_9_code 57 = .ok (.dastore, 1) := by decide +kernel
theorem own_d1_58 : decode prog_60_method_9_code 58 = .ok (.aload 6, 2) := by decide +kernel
theorem own_d1_60 : decode prog_60_method_9_code 60 = .ok (.iload 8, 2) := by decide +kernel
theorem own_d1_62 : decode prog_60_method_9_code 62 = .ok (.aload 6, 2) := by decide +kernel
theorem own_d1_64 : decode prog_60_method_9_code 64 = .ok (.iload 8, 2) := by decide +kernel
theorem own_d1_66 : decode prog_60_method_9_code 66 = .ok (.iconst 1, 1) := by decide +kernel
theorem own_d1_67 : decode prog_60_method_9_code 67 = .ok (.isub, 1) := by decide +kernel
theorem own_d1_68 : decode prog_60_method_9_code 68 = .ok (.iaload, 1) := by decide +kernel
theorem own_d1_69 : decode prog_60_method_9_code 69 = .ok (.iastore, 1) := by decide +kernel
theorem own_d1_70 : decode prog_60_method_9_code 70 = .ok (.iinc 8 (-1), 3) := by decide +kernel
theorem own_d1_73 : decode prog_60_method_9_code 73 = .ok (.goto (-46), 3) := by decide +kernel
set_option maxRecDepth 65536 in
set_option maxHeartbeats 40000000 in
theorem rm_keep_2_0_0 (l : Launch) (Z : State) (a0 : Array Value) (hw : ∀ d ∈ tables_1, d.before a0 Z = true) (ws : List Jvm.Cond) (g : Int32) (d : UInt64) (u : Addr) (w : Addr) (k3 : ClassId) (k4 : ClassId) (x0 : UInt64) (x1 : UInt64) (x2 : UInt64) (x3 : UInt64) (x4 : UInt64) (x5 : UInt64) (y0 : Int32) (y1 : Int32) (y2 : Int32) (y3 : Int32) (y4 : Int32) (y5 : Int32) (h0 : Heap) (n0 : Nat) (Z0 : n0 ≤ h0.size) (V1 : Arv Z h0 u k3 .double (6 : Int32) [(.double x0), (.double x1), (.double x2), (.double x3), (.double x4), (.double x5)] (.double (0 : UInt64))) (V2 : Arv Z h0 w k4 .int (6 : Int32) [(.int y0), (.int y1), (.int y2), (.int y3), (.int y4), (.int y5)] (.int (0 : Int32))) (hne : u ≠ w) (gu : n0 ≤ u) (gw : n0 ≤ w) (hl : cmpValue (FP.dcmp d x1) .g < 0) (hs1 : 0 < cmpValue (FP.dcmp x0 d) .l) :
    MetFree l (⟨"com/example/outpost/outpost/model/Distances", "keepNearer", "(IDII[D[I)Z"⟩ : MethodName) (head1 (Jvm.Cond.code (⟨"com/example/outpost/outpost/model/Distances", "keepNearer", "(IDII[D[I)Z"⟩ : MethodName) prog_60_method_9_code 9 (some .boolean) :: ws) ({ frames := 0, cells := 0, slots := 0, locals := 0 } : Room)) (fun aa U => aa = #[(.int g), (.double d), (.int (0 : Int32)), (.int (2 : Int32)), (.ref u), (.ref w)] ∧ Z.Warmed39 U.vm ∧ U.heap = h0) (fun _ _ _ _ _ => True) (fun _ U ou U' => ∃ v L, ou = .returned v ∧ Q_rm_keep_2_0_0 Z g d u w k3 k4 x0 x1 x2 x3 x4 x5 y0 y1 y2 y3 y4 y5 h0 n0 v U'.heap L ∧ FrameEnd U ou U' L ({ frames := 0, cells := 0, slots := 0, locals := 0 } : Room).cells ({ frames := 0, cells := 0, slots := 0, locals := 0 } : Room).slots) := by
  refine MetFree.of_bodySF (plainFor_of_name own_pn1) hisR ?_
  intro p e s m args below meth c s₁ Bd hml0 hP hK
  obtain ⟨rfl, hZ, hh⟩ := hP
  have hx := Bd.exec
  have hby := Bd.bytes
  have hml : c.maxLocals = 9 := hml0
  have hown : s.vm.findClass "com/example/outpost/outpost/model/Distances" = some m.cls := findClass_of_methodNamed Bd.named
  have hnm := (name_of_methodNamed Bd.named Bd.method).1
  have X0 : Stand p l e ({ frames := 0, cells := 0, slots := 0, locals := 0 } : Room) s m #[(.int g), (.double d), (.int (0 : Int32)), (.int (2 : Int32)), (.ref u), (.ref w)] below meth c s₁ [] 0 0 := Stand.of_body Bd
  have e0 : s₁.heap = h0 := by rw [← hh, Bd.state]; rfl
  have N0 := Fr.nil n0
  have K0 := Keep.refl h0 [u, w]
  show own_Go p e below (fun o u L => FrameEnd s o u L ({ frames := 0, cells := 0, slots := 0, locals := 0 } : Room).cells ({ frames := 0, cells := 0, slots := 0, locals := 0 } : Room).slots) (Q_rm_keep_2_0_0 Z g d u w k3 k4 x0 x1 x2 x3 x4 x5 y0 y1 y2 y3 y4 y5 h0 n0) (s₁.setTop (entryFrame m #[(.int g), (.double d), (.int (0 : Int32)), (.int (2 : Int32)), (.ref u), (.ref w)] 9))
  rw [own_ef_rm_keep_2_0_0 m g d u w]
  show own_Go _ _ _ _ _ (State.setTop _ (mkF _ 0 #[.val (.int g), .val (.double d), .second, .val (.int (0 : Int32)), .val (.int (2 : Int32)), .val (.ref u), .val (.ref w), .unset, .unset] []))
  refine own_iloadN X0 hx 1 rfl (hb hby own_d1_0) rfl ?_
  refine own_iload X0 hx 3 rfl (hb hby own_d1_1) rfl ?_
  refine own_imul X0 hx 4 rfl (hb hby own_d1_3) (0 : Int32) rfl ?_
  refine own_istore X0 hx 6 rfl (hb hby own_d1_4) #[.val (.int g), .val (.double d), .second, .val (.int (0 : Int32)), .val (.int (2 : Int32)), .val (.ref u), .val (.ref w), .val (.int (0 : Int32)), .unset] rfl ?_
  refine own_iload X0 hx 8 rfl (hb hby own_d1_6) rfl ?_
  refine own_iload X0 hx 10 rfl (hb hby own_d1_8) rfl ?_
  refine own_iadd X0 hx 11 rfl (hb hby own_d1_10) (2 : Int32) rfl ?_
  refine own_iconst X0 hx 12 rfl (hb hby own_d1_11) (1 : Int32) rfl ?_
  refine own_isub X0 hx 13 rfl (hb hby own_d1_12) (1 : Int32) rfl ?_
  refine own_istore X0 hx 15 rfl (hb hby own_d1_13) #[.val (.int g), .val (.double d), .second, .val (.int (0 : Int32)), .val (.int (2 : Int32)), .val (.ref u), .val (.ref w), .val (.int (0 : Int32)), .val (.int (1 : Int32))] rfl ?_
  refine own_dloadN X0 hx 16 rfl (hb hby own_d1_15) rfl ?_
  refine own_aload X0 hx 18 rfl (hb hby own_d1_16) rfl rfl ?_
  refine own_iload X0 hx 20 rfl (hb hby own_d1_18) rfl ?_
  refine own_ldD X0 hx hZ e0 V1 ⟨by decide, by decide⟩ x1 rfl 21 rfl (hb hby own_d1_20) ?_
  refine own_dcmp X0 hx 22 rfl (hb hby own_d1_21) _ rfl ?_
  refine own_ifYes X0 hx 27 (hb hby own_d1_22) ((if0 _ _).trans (tlt hl).1) (by decide) rfl ?_
  refine own_iload X0 hx 29 rfl (hb hby own_d1_27) rfl ?_
  refine own_iload X0 hx 31 rfl (hb hby own_d1_29) rfl ?_
  refine own_icmpNo X0 hx 34 rfl (hb hby own_d1_31) (by decide) ?_
  refine own_aload X0 hx 36 rfl (hb hby own_d1_34) rfl rfl ?_
  refine own_iload X0 hx 38 rfl (hb hby own_d1_36) rfl ?_
  refine own_iconst X0 hx 39 rfl (hb hby own_d1_38) (1 : Int32) rfl ?_
  refine own_isub X0 hx 40 rfl (hb hby own_d1_39) (0 : Int32) rfl ?_
  refine own_ldD X0 hx hZ e0 V1 ⟨by decide, by decide⟩ x0 rfl 41 rfl (hb hby own_d1_40) ?_
  refine own_dloadN X0 hx 42 rfl (hb hby own_d1_41) rfl ?_
  refine own_dcmp X0 hx 43 rfl (hb hby own_d1_42) _ rfl ?_
  refine own_ifNo X0 hx 46 rfl (hb hby own_d1_43) ((if0 _ _).trans (tlt hs1).2.2.2) ?_
  refine own_aload X0 hx 48 rfl (hb hby own_d1_46) rfl rfl ?_
  refine own_iload X0 hx 50 rfl (hb hby own_d1_48) rfl ?_
  refine own_aload X0 hx 52 rfl (hb hby own_d1_50) rfl rfl ?_
  refine own_iload X0 hx 54 rfl (hb hby own_d1_52) rfl ?_
  refine own_iconst X0 hx 55 rfl (hb hby own_d1_54) (1 : Int32) rfl ?_
  refine own_isub X0 hx 56 rfl (hb hby own_d1_55) (0 : Int32) rfl ?_
  refine own_ldD X0 hx hZ e0 V1 ⟨by decide, by decide⟩ x0 rfl 57 rfl (hb hby own_d1_56) ?_
  refine own_stD X0 hx hZ e0 V1 ⟨by decide, by decide⟩ 1 rfl (Nat.le_of_ble_eq_true rfl) [(.double x0), (.double x0), (.double x2), (.double x3), (.double x4), (.double x5)] rfl 58 rfl (hb hby own_d1_57) fun T149 h149 X149 e149 W149 f150 => ?_
  have f151 := V2.other W149 (Ne.symm hne)
  have z152 := Nat.le_trans Z0 (Keep.of_wr W149).1
  have K153 := K0.wr W149 (Or.inl (List.mem_of_getElem? (i := 0) rfl))
  have N154 := Fr.snoc X149 N0 gu
  refine own_aload X149 hx 60 rfl (hb hby own_d1_58) rfl rfl ?_
  refine own_iload X149 hx 62 rfl (hb hby own_d1_60) rfl ?_
  refine own_aload X149 hx 64 rfl (hb hby own_d1_62) rfl rfl ?_
  refine own_iload X149 hx 66 rfl (hb hby own_d1_64) rfl ?_
  refine own_iconst X149 hx 67 rfl (hb hby own_d1_66) (1 : Int32) rfl ?_
  refine own_isub X149 hx 68 rfl (hb hby own_d1_67) (0 : Int32) rfl ?_
  refine own_ldI X149 hx hZ e149 f151 ⟨by decide, by decide⟩ y0 rfl 69 rfl (hb hby own_d1_68) ?_
  refine own_stI X149 hx hZ e149 f151 ⟨by decide, by decide⟩ 1 rfl (Nat.le_of_ble_eq_true rfl) [(.int y0), (.int y0), (.int y2), (.int y3), (.int y4), (.int y5)] rfl 70 rfl (hb hby own_d1_69) fun T155 h155 X155 e155 W155 f156 => ?_
  have f157 := f150.other W155 hne
  have z158 := Nat.le_trans z152 (Keep.of_wr W155).1
  have K159 := K153.wr W155 (Or.inl (List.mem_of_getElem? (i := 1) rfl))
  have N160 := Fr.snoc X155 N154 gw
  refine own_iinc X155 hx 73 rfl (hb hby own_d1_70) rfl #[.val (.int g), .val (.double d), .second, .val (.int (0 : Int32)), .val (.int (2 : Int32)), .val (.ref u), .val (.ref w), .val (.int (0 : Int32)), .val (.int (0 : Int32))] rfl ?_
  refine own_goto X155 hx 27 (hb hby own_d1_73) (by decide) rfl ?_
  refine own_iload X155 hx 29 rfl (hb hby own_d1_27) rfl ?_
  refine own_iload X155 hx 31 rfl (hb hby own_d1_29) rfl ?_
  refine own_icmpYes X155 hx 76 (hb hby own_d1_31) (by decide) (by decide) rfl ?_
  refine own_aload X155 hx 78 rfl (hb hby own_d1_76) rfl rfl ?_
  refine own_iload X155 hx 80 rfl (hb hby own_d1_78) rfl ?_
  refine own_dloadN X155 hx 81 rfl (hb hby own_d1_80) rfl ?_
  refine own_stD X155 hx hZ e155 f157 ⟨by decide, by decide⟩ 0 rfl (Nat.le_of_ble_eq_true rfl) [(.double d), (.double x0), (.double x2), (.double x3), (.double x4), (.double x5)] rfl 82 rfl (hb hby own_d1_81) fun T161 h161 X161 e161 W161 f162 => ?_
  have f163 := f156.other W161 (Ne.symm hne)
  have z164 := Nat.le_trans z158 (Keep.of_wr W161).1
  have K165 := K159.wr W161 (Or.inl (List.mem_of_getElem? (i := 0) rfl))
  have N166 := Fr.snoc X161 N160 gu
  refine own_aload X161 hx 84 rfl (hb hby own_d1_82) rfl rfl ?_
  refine own_iload X161 hx 86 rfl (hb hby own_d1_84) rfl ?_
  refine own_iloadN X161 hx 87 rfl (hb hby own_d1_86) rfl ?_
  refine own_stI X161 hx hZ e161 f163 ⟨by decide, by decide⟩ 0 rfl (Nat.le_of_ble_eq_true rfl) [(.int g), (.int y0), (.int y2), (.int y3), (.int y4), (.int y5)] rfl 88 rfl (hb hby own_d1_87) fun T167 h167 X167 e167 W167 f168 => ?_
  have f169 := f162.other W167 hne
  have z170 := Nat.le_trans z164 (Keep.of_wr W167).1
  have K171 := K165.wr W167 (Or.inl (List.mem_of_getElem? (i := 1) rfl))
  have N172 := Fr.snoc X167 N166 gw
  refine own_iconst X167 hx 89 rfl (hb hby own_d1_88) (1 : Int32) rfl ?_
  refine own_ret X167 (some (.int (1 : Int32))) (fun h => by rw [Bd.returns] at h; cases h) Bd.notSynchronized (by decide) (by decide) ?_ (fun fs hr => retN X167 hx (t := .boolean) Bd.returns (by simp) (hb hby own_d1_89) hr)
  show Q_rm_keep_2_0_0 Z g d u w k3 k4 x0 x1 x2 x3 x4 x5 y0 y1 y2 y3 y4 y5 h0 n0 _ T167.heap _
  rw [e167]
  exact ⟨rfl, N172, K171, f169, f168⟩
theorem own_ef_rm_keep_2_0_1 (m : MethodId) (g : Int32) (d : UInt64) (u : Addr) (w : Addr) : entryFrame m #[(.int g), (.double d), (.int (0 : Int32)), (.int (2 : Int32)), (.ref u), (.ref w)] 9 = mkF m 0 #[.val (.int g), .val (.double d), .second, .val (.int (0 : Int32)), .val (.int (2 : Int32)), .val (.ref u), .val (.ref w), .unset, .unset] [] := by first | (simp [entryFrame, mkF, argsToLocals, Value.category]; done) | rfl
def Q_rm_keep_2_0_1 (Z : State) (g : Int32) (d : UInt64) (u : Addr) (w : Addr) (k3 : ClassId) (k4 : ClassId) (x0 : UInt64) (x1 : UInt64) (x2 : UInt64) (x3 : UInt64) (x4 : UInt64) (x5 : UInt64) (y0 : Int32) (y1 : Int32) (y2 : Int32) (y3 : Int32) (y4 : Int32) (y5 : Int32) (h0 : Heap) (n0 : Nat) (v : Option Value) (h : Heap) (L : List Loc) : Prop := v = some (.int (1 : Int32)) ∧ Fr n0 L ∧ Keep h0 h [u, w] ∧ Arv Z h u k3 .double (6 : Int32) [(.double x0), (.double d), (.double x2), (.double x3), (.double x4), (.double x5)] (.double (0 : UInt64)) ∧ Arv Z h w k4 .int (6 : Int32) [(.int y0), (.int g), (.int y2), (.int y3), (.int y4), (.int y5)] (.int (0 : Int32))
set_option maxRecDepth 65536 in
set_option maxHeartbeats 40000000 in
theorem rm_keep_2_0_1 (l : Launch) (Z : State) (a0 : Array Value) (hw : ∀ d ∈ tables_1, d.before a0 Z = true) (ws : List Jvm.Cond) (g : Int32) (d : UInt64) (u : Addr) (w : Addr) (k3 : ClassId) (k4 : ClassId) (x0 : UInt64) (x1 : UInt64) (x2 : UInt64) (x3 : UInt64) (x4 : UInt64) (x5 : UInt64) (y0 : Int32) (y1 : Int32) (y2 : Int32) (y3 : Int32) (y4 : Int32) (y5 : Int32) (h0 : Heap) (n0 : Nat) (Z0 : n0 ≤ h0.size) (V1 : Arv Z h0 u k3 .double (6 : Int32) [(.double x0), (.double x1), (.double x2), (.double x3), (.double x4), (.double x5)] (.double (0 : UInt64))) (V2 : Arv Z h0 w k4 .int (6 : Int32) [(.int y0), (.int y1), (.int y2), (.int y3), (.int y4), (.int y5)] (.int (0 : Int32))) (hne : u ≠ w) (gu : n0 ≤ u) (gw : n0 ≤ w) (hl : cmpValue (FP.dcmp d x1) .g < 0) (hs1 : ¬ 0 < cmpValue (FP.dcmp x0 d) .l) :
    MetFree l (⟨"com/example/outpost/outpost/model/Distances", "keepNearer", "(IDII[D[I)Z"⟩ : MethodName) (head1 (Jvm.Cond.code (⟨"com/example/outpost/outpost/model/Distances", "keepNearer", "(IDII[D[I)Z"⟩ : MethodName) prog_60_method_9_code 9 (some .boolean) :: ws) ({ frames := 0, cells := 0, slots := 0, locals := 0 } : Room)) (fun aa U => aa = #[(.int g), (.double d), (.int (0 : Int32)), (.int (2 : Int32)), (.ref u), (.ref w)] ∧ Z.Warmed39 U.vm ∧ U.heap = h0) (fun _ _ _ _ _ => True) (fun _ U ou U' => ∃ v L, ou = .returned v ∧ Q_rm_keep_2_0_1 Z g d u w k3 k4 x0 x1 x2 x3 x4 x5 y0 y1 y2 y3 y4 y5 h0 n0 v U'.heap L ∧ FrameEnd U ou U' L ({ frames := 0, cells := 0, slots := 0, locals := 0 } : Room).cells ({ frames := 0, cells := 0, slots := 0, locals := 0 } : Room).slots) := by
  refine MetFree.of_bodySF (plainFor_of_name own_pn1) hisR ?_
  intro p e s m args below meth c s₁ Bd hml0 hP hK
  obtain ⟨rfl, hZ, hh⟩ := hP
  have hx := Bd.exec
  have hby := Bd.bytes
  have hml : c.maxLocals = 9 := hml0
  have hown : s.vm.findClass "com/example/outpost/outpost/model/Distances" = some m.cls := findClass_of_methodNamed Bd.named
  have hnm := (name_of_methodNamed Bd.named Bd.method).1
  have X0 : Stand p l e ({ frames := 0, cells := 0, slots := 0, locals := 0 } : Room) s m #[(.int g), (.double d), (.int (0 : Int32)), (.int (2 : Int32)), (.ref u), (.ref w)] below meth c s₁ [] 0 0 := Stand.of_body Bd
  have e0 : s₁.heap = h0 := by rw [← hh, Bd.state]; rfl
  have N0 := Fr.nil n0
  have K0 := Keep.refl h0 [u, w]
  show own_Go p e below (fun o u L => FrameEnd s o u L ({ frames := 0, cells := 0, slots := 0, locals := 0 } : Room).cells ({ frames := 0, cells := 0, slots := 0, locals := 0 } : Room).slots) (Q_rm_keep_2_0_1 Z g d u w k3 k4 x0 x1 x2 x3 x4 x5 y0 y1 y2 y3 y4 y5 h0 n0) (s₁.setTop (entryFrame m #[(.int g), (.double d), (.int (0 : Int32)), (.int (2 : Int32)), (.ref u), (.ref w)] 9))
  rw [own_ef_rm_keep_2_0_1 m g d u w]
  show own_Go _ _ _ _ _ (State.setTop _ (mkF _ 0 #[.val (.int g), .val (.double d), .second, .val (.int (0 : Int32)), .val (.int (2 : Int32)), .val (.ref u), .val (.ref w), .unset, .unset] []))
  refine own_iloadN X0 hx 1 rfl (hb hby own_d1_0) rfl ?_
  refine own_iload X0 hx 3 rfl (hb hby own_d1_1) rfl ?_
  refine own_imul X0 hx 4 rfl (hb hby own_d1_3) (0 : Int32) rfl ?_
  refine own_istore X0 hx 6 rfl (hb hby own_d1_4) #[.val (.int g), .val (.double d), .second, .val (.int (0 : Int32)), .val (.int (2 : Int32)), .val (.ref u), .val (.ref w), .val (.int (0 : Int32)), .unset] rfl ?_
  refine own_iload X0 hx 8 rfl (hb hby own_d1_6) rfl ?_
  refine own_iload X0 hx 10 rfl (hb hby own_d1_8) rfl ?_
  refine own_iadd X0 hx 11 rfl (hb hby own_d1_10) (2 : Int32) rfl ?_
  refine own_iconst X0 hx 12 rfl (hb hby own_d1_11) (1 : Int32) rfl ?_
  refine own_isub X0 hx 13 rfl (hb hby own_d1_12) (1 : Int32) rfl ?_
  refine own_istore X0 hx 15 rfl (hb hby own_d1_13) #[.val (.int g), .val (.double d), .second, .val (.int (0 : Int32)), .val (.int (2 : Int32)), .val (.ref u), .val (.ref w), .val (.int (0 : Int32)), .val (.int (1 : Int32))] rfl ?_
  refine own_dloadN X0 hx 16 rfl (hb hby own_d1_15) rfl ?_
  refine own_aload X0 hx 18 rfl (hb hby own_d1_16) rfl rfl ?_
  refine own_iload X0 hx 20 rfl (hb hby own_d1_18) rfl ?_
  refine own_ldD X0 hx hZ e0 V1 ⟨by decide, by decide⟩ x1 rfl 21 rfl (hb hby own_d1_20) ?_
  refine own_dcmp X0 hx 22 rfl (hb hby own_d1_21) _ rfl ?_
  refine own_ifYes X0 hx 27 (hb hby own_d1_22) ((if0 _ _).trans (tlt hl).1) (by decide) rfl ?_
  refine own_iload X0 hx 29 rfl (hb hby own_d1_27) rfl ?_
  refine own_iload X0 hx 31 rfl (hb hby own_d1_29) rfl ?_
  refine own_icmpNo X0 hx 34 rfl (hb hby own_d1_31) (by decide) ?_
  refine own_aload X0 hx 36 rfl (hb hby own_d1_34) rfl rfl ?_
  refine own_iload X0 hx 38 rfl (hb hby own_d1_36) rfl ?_
  refine own_iconst X0 hx 39 rfl (hb hby own_d1_38) (1 : Int32) rfl ?_
  refine own_isub X0 hx 40 rfl (hb hby own_d1_39) (0 : Int32) rfl ?_
  refine own_ldD X0 hx hZ e0 V1 ⟨by decide, by decide⟩ x0 rfl 41 rfl (hb hby own_d1_40) ?_
  refine own_dloadN X0 hx 42 rfl (hb hby own_d1_41) rfl ?_
  refine own_dcmp X0 hx 43 rfl (hb hby own_d1_42) _ rfl ?_
  refine own_ifYes X0 hx 76 (hb hby own_d1_43) ((if0 _ _).trans (flt hs1).2.2.2) (by decide) rfl ?_
  refine own_aload X0 hx 78 rfl (hb hby own_d1_76) rfl rfl ?_
  refine own_iload X0 hx 80 rfl (hb hby own_d1_78) rfl ?_
  refine own_dloadN X0 hx 81 rfl (hb hby own_d1_80) rfl ?_
  refine own_stD X0 hx hZ e0 V1 ⟨by decide, by decide⟩ 1 rfl (Nat.le_of_ble_eq_true rfl) [(.double x0), (.double d), (.double x2), (.double x3), (.double x4), (.double x5)] rfl 82 rfl (hb hby own_d1_81) fun T173 h173 X173 e173 W173 f174 => ?_
  have f175 := V2.other W173 (Ne.symm hne)
  have z176 := Nat.le_trans Z0 (Keep.of_wr W173).1
  have K177 := K0.wr W173 (Or.inl (List.mem_of_getElem? (i := 0) rfl))
  have N178 := Fr.snoc X173 N0 gu
  refine own_aload X173 hx 84 rfl (hb hby own_d1_82) rfl rfl ?_
  refine own_iload X173 hx 86 rfl (hb hby own_d1_84) rfl ?_
  refine own_iloadN X173 hx 87 rfl (hb hby own_d1_86) rfl ?_
  refine own_stI X173 hx hZ e173 f175 ⟨by decide, by decide⟩ 1 rfl (Nat.le_of_ble_eq_true rfl) [(.int y0), (.int g), (.int y2), (.int y3), (.int y4), (.int y5)] rfl 88 rfl (hb hby own_d1_87) fun T179 h179 X179 e179 W179 f180 => ?_
  have f181 := f174.other W179 hne
  have z182 := Nat.le_trans z176 (Keep.of_wr W179).1
  have K183 := K177.wr W179 (Or.inl (List.mem_of_getElem? (i := 1) rfl))
  have N184 := Fr.snoc X179 N178 gw
  refine own_iconst X179 hx 89 rfl (hb hby own_d1_88) (1 : Int32) rfl ?_
  refine own_ret X179 (some (.int (1 : Int32))) (fun h => by rw [Bd.returns] at h; cases h) Bd.notSynchronized (by decide) (by decide) ?_ (fun fs hr => retN X179 hx (t := .boolean) Bd.returns (by simp) (hb hby own_d1_89) hr)
  show Q_rm_keep_2_0_1 Z g d u w k3 k4 x0 x1 x2 x3 x4 x5 y0 y1 y2 y3 y4 y5 h0 n0 _ T179.heap _
  rw [e179]
  exact ⟨rfl, N184, K183, f181, f180⟩
theorem own_ef_rm_keep_2_1_n (m : MethodId) (g : Int32) (d : UInt64) (u : Addr) (w : Addr) : entryFrame m #[(.int g), (.double d), (.int (1 : Int32)), (.int (2 : Int32)), (.ref u), (.ref w)] 9 = mkF m 0 #[.val (.int g), .val (.double d), .second, .val (.int (1 : Int32)), .val (.int (2 : Int32)), .val (.ref u), .val (.ref w), .unset, .unset] [] := by first | (simp [entryFrame, mkF, argsToLocals, Value.category]; done) | rfl
def Q_rm_keep_2_1_n (Z : State) (g : Int32) (d : UInt64) (u : Addr) (w : Addr) (k3 : ClassId) (k4 : ClassId) (x0 : UInt64) (x1 : UInt64) (x2 : UInt64) (x3 : UInt64) (x4 : UInt64) (x5 : UInt64) (y0 : Int32) (y1 : Int32) (y2 : Int32) (y3 : Int32) (y4 : Int32) (y5 : Int32) (h0 : Heap) (n0 : Nat) (v : Option Value) (h : Heap) (L : List Loc) : Prop := v = some (.int (0 : Int32)) ∧ Fr n0 L ∧ Keep h0 h [u, w] ∧ Arv Z h u k3 .double (6 : Int32) [(.double x0), (.double x1), (.double x2), (.double x3), (.double x4), (.double x5)] (.double (0 : UInt64)) ∧ Arv Z h w k4 .int (6 : Int32) [(.int y0), (.int y1), (.int y2), (.int y3), (.int y4), (.int y5)] (.int (0 : Int32))
set_option maxRecDepth 65536 in
set_option maxHeartbeats 40000000 in
theorem rm_keep_2_1_n (l : Launch) (Z : State) (a0 : Array Value) (hw : ∀ d ∈ tables_1, d.before a0 Z = true) (ws : List Jvm.Cond) (g : Int32) (d : UInt64) (u : Addr) (w : Addr) (k3 : ClassId) (k4 : ClassId) (x0 : UInt64) (x1 : UInt64) (x2 : UInt64) (x3 : UInt64) (x4 : UInt64) (x5 : UInt64) (y0 : Int32) (y1 : Int32) (y2 : Int32) (y3 : Int32) (y4 : Int32) (y5 : Int32) (h0 : Heap) (n0 : Nat) (Z0 : n0 ≤ h0.size) (V1 : Arv Z h0 u k3 .double (6 : Int32) [(.double x0), (.double x1), (.double x2), (.double x3), (.double x4), (.double x5)] (.double (0 : UInt64))) (V2 : Arv Z h0 w k4 .int (6 : Int32) [(.int y0), (.int y1), (.int y2), (.int y3), (.int y4), (.int y5)] (.int (0 : Int32))) (hne : u ≠ w) (gu : n0 ≤ u) (gw : n0 ≤ w) (hl : ¬ cmpValue (FP.dcmp d x3) .g < 0) :
    MetFree l (⟨"com/example/outpost/outpost/model/Distances", "keepNearer", "(IDII[D[I)Z"⟩ : MethodName) (head1 (Jvm.Cond.code (⟨"com/example/outpost/outpost/model/Distances", "keepNearer", "(IDII[D[I)Z"⟩ : MethodName) prog_60_method_9_code 9 (some .boolean) :: ws) ({ frames := 0, cells := 0, slots := 0, locals := 0 } : Room)) (fun aa U => aa = #[(.int g), (.double d), (.int (1 : Int32)), (.int (2 : Int32)), (.ref u), (.ref w)] ∧ Z.Warmed39 U.vm ∧ U.heap = h0) (fun _ _ _ _ _ => True) (fun _ U ou U' => ∃ v L, ou = .returned v ∧ Q_rm_keep_2_1_n Z g d u w k3 k4 x0 x1 x2 x3 x4 x5 y0 y1 y2 y3 y4 y5 h0 n0 v U'.heap L ∧ FrameEnd U ou U' L ({ frames := 0, cells := 0, slots := 0, locals := 0 } : Room).cells ({ frames := 0, cells := 0, slots := 0, locals := 0 } : Room).slots) := by
  refine MetFree.of_bodySF (plainFor_of_name own_pn1) hisR ?_
  intro p e s m args below meth c s₁ Bd hml0 hP hK
  obtain ⟨rfl, hZ, hh⟩ := hP
  have hx := Bd.exec
  have hby := Bd.bytes
  have hml : c.maxLocals = 9 := hml0
  have hown : s.vm.findClass "com/example/outpost/outpost/model/Distances" = some m.cls := findClass_of_methodNamed Bd.named
  have hnm := (name_of_methodNamed Bd.named Bd.method).1
  have X0 : Stand p l e ({ frames := 0, cells := 0, slots := 0, locals := 0 } : Room) s m #[(.int g), (.double d), (.int (1 : Int32)), (.int (2 : Int32)), (.ref u), (.ref w)] below meth c s₁ [] 0 0 := Stand.of_body Bd
  have e0 : s₁.heap = h0 := by rw [← hh, Bd.state]; rfl
  have N0 := Fr.nil n0
  have K0 := Keep.refl h0 [u, w]
  show own_Go p e below (fun o u L => FrameEnd s o u L ({ frames := 0, cells := 0, slots := 0, locals := 0 } : Room).cells ({ frames := 0, cells := 0, slots := 0, locals := 0 } : Room).slots) (Q_rm_keep_2_1_n Z g d u w k3 k4 x0 x1 x2 x3 x4 x5 y0 y1 y2 y3 y4 y5 h0 n0) (s₁.setTop (entryFrame m #[(.int g), (.double d), (.int (1 : Int32)), (.int (2 : Int32)), (.ref u), (.ref w)] 9))
  rw [own_ef_rm_keep_2_1_n m g d u w]
  show own_Go _ _ _ _ _ (State.setTop _ (mkF _ 0 #[.val (.int g), .val (.double d), .second, .val (.int (1 : Int32)), .val (.int (2 : Int32)), .val (.ref u), .val (.ref w), .unset, .unset] []))
  refine own_iloadN X0 hx 1 rfl (hb hby own_d1_0) rfl ?_
  refine own_iload X0 hx 3 rfl (hb hby own_d1_1) rfl ?_
  refine own_imul X0 hx 4 rfl (hb hby own_d1_3) (2 : Int32) rfl ?_
  refine own_istore X0 hx 6 rfl (hb hby own_d1_4) #[.val (.int g), .val (.double d), .second, .val (.int (1 : Int32)), .val (.int (2 : Int32)), .val (.ref u), .val (.ref w), .val (.int (2 : Int32)), .unset] rfl ?_
  refine own_iload X0 hx 8 rfl (hb hby own_d1_6) rfl ?_
  refine own_iload X0 hx 10 rfl (hb hby own_d1_8) rfl ?_
  refine own_iadd X0 hx 11 rfl (hb hby own_d1_10) (4 : Int32) rfl ?_
  refine own_iconst X0 hx 12 rfl (hb hby own_d1_11) (1 : Int32) rfl ?_
  refine own_isub X0 hx 13 rfl (hb hby own_d1_12) (3 : Int32) rfl ?_
  refine own_istore X0 hx 15 rfl (hb hby own_d1_13) #[.val (.int g), .val (.double d), .second, .val (.int (1 : Int32)), .val (.int (2 : Int32)), .val (.ref u), .val (.ref w), .val (.int (2 : Int32)), .val (.int (3 : Int32))] rfl ?_
  refine own_dloadN X0 hx 16 rfl (hb hby own_d1_15) rfl ?_
  refine own_aload X0 hx 18 rfl (hb hby own_d1_16) rfl rfl ?_
  refine own_iload X0 hx 20 rfl (hb hby own_d1_18) rfl ?_
  refine own_ldD X0 hx hZ e0 V1 ⟨by decide, by decide⟩ x3 rfl 21 rfl (hb hby own_d1_20) ?_
  refine own_dcmp X0 hx 22 rfl (hb hby own_d1_21) _ rfl ?_
  refine own_ifNo X0 hx 25 rfl (hb hby own_d1_22) ((if0 _ _).trans (flt hl).1) ?_
  refine own_iconst X0 hx 26 rfl (hb hby own_d1_25) (0 : Int32) rfl ?_
  refine own_ret X0 (some (.int (0 : Int32))) (fun h => by rw [Bd.returns] at h; cases h) Bd.notSynchronized (by decide) (by decide) ?_ (fun fs hr => retN X0 hx (t := .boolean) Bd.returns (by simp) (hb hby own_d1_26) hr)
  show Q_rm_keep_2_1_n Z g d u w k3 k4 x0 x1 x2 x3 x4 x5 y0 y1 y2 y3 y4 y5 h0 n0 _ s₁.heap _
  rw [e0]
  exact ⟨rfl, N0, K0, V1, V2⟩
theorem own_ef_rm_keep_2_1_0 (m : MethodId) (g : Int32) (d : UInt64) (u : Addr) (w : Addr) : entryFrame m #[(.int g), (.double d), (.int (1 : Int32)), (.int (2 : Int32)), (.ref u), (.ref w)] 9 = mkF m 0 #[.val (.int g), .val (.double d), .second, .val (.int (1 : Int32)), .val (.int (2 : Int32)), .val (.ref u), .val (.ref w), .unset, .unset] [] := by first | (simp [entryFrame, mkF, argsToLocals, Value.category]; done) | rfl
def Q_rm_keep_2_1_0 (Z : State) (g : Int32) (d : UInt64) (u : Addr) (w : Addr) (k3 : ClassId) (k4 : ClassId) (x0 : UInt64) (x1 : UInt64) (x2 : UInt64) (x3 : UInt64) (x4 : UInt64) (x5 : UInt64) (y0 : Int32) (y1 : Int32) (y2 : Int32) (y3 : Int32) (y4 : Int32) (y5 : Int32) (h0 : Heap) (n0 : Nat) (v : Option Value) (h : Heap) (L : List Loc) : Prop := v = some (.int (1 : Int32)) ∧ Fr n0 L ∧ Keep h0 h [u, w] ∧ Arv Z h u k3 .double (6 : Int32) [(.double x0), (.double x1), (.double d), (.double x2), (.double x4), (.double x5)] (.double (0 : UInt64)) ∧ Arv Z h w k4 .int (6 : Int32) [(.int y0), (.int y1), (.int g), (.int y2), (.int y4), (.int y5)] (.int (0 : Int32))
set_option maxRecDepth 65536 in
set_option maxHeartbeats 40000000 in
theorem rm_keep_2_1_0 (l : Launch) (Z : State) (a0 : Array Value) (hw : ∀ d ∈ tables_1, d.before a0 Z = true) (ws : List Jvm.Cond) (g : Int32) (d : UInt64) (u : Addr) (w : Addr) (k3 : ClassId) (k4 : ClassId) (x0 : UInt64) (x1 : UInt64) (x2 : UInt64) (x3 : UInt64) (x4 : UInt64) (x5 : UInt64) (y0 : Int32) (y1 : Int32) (y2 : Int32) (y3 : Int32) (y4 : Int32) (y5 : Int32) (h0 : Heap) (n0 : Nat) (Z0 : n0 ≤ h0.size) (V1 : Arv Z h0 u k3 .double (6 : Int32) [(.double x0), (.double x1), (.double x2), (.double x3), (.double x4), (.double x5)] (.double (0 : UInt64))) (V2 : Arv Z h0 w k4 .int (6 : Int32) [(.int y0), (.int y1), (.int y2), (.int y3), (.int y4), (.int y5)] (.int (0 : Int32))) (hne : u ≠ w) (gu : n0 ≤ u) (gw : n0 ≤ w) (hl : cmpValue (FP.dcmp d x3) .g < 0) (hs1 : 0 < cmpValue (FP.dcmp x2 d) .l) :
    MetFree l (⟨"com/example/outpost/outpost/model/Distances", "keepNearer", "(IDII[D[I)Z"⟩ : MethodName) (head1 (Jvm.Cond.code (⟨"com/example/outpost/outpost/model/Distances", "keepNearer", "(IDII[D[I)Z"⟩ : MethodName) prog_60_method_9_code 9 (some .boolean) :: ws) ({ frames := 0, cells := 0, slots := 0, locals := 0 } : Room)) (fun aa U => aa = #[(.int g), (.double d), (.int (1 : Int32)), (.int (2 : Int32)), (.ref u), (.ref w)] ∧ Z.Warmed39 U.vm ∧ U.heap = h0) (fun _ _ _ _ _ => True) (fun _ U ou U' => ∃ v L, ou = .returned v ∧ Q_rm_keep_2_1_0 Z g d u w k3 k4 x0 x1 x2 x3 x4 x5 y0 y1 y2 y3 y4 y5 h0 n0 v U'.heap L ∧ FrameEnd U ou U' L ({ frames := 0, cells := 0, slots := 0, locals := 0 } : Room).cells ({ frames := 0, cells := 0, slots := 0, locals := 0 } : Room).slots) := by
  refine MetFree.of_bodySF (plainFor_of_name own_pn1) hisR ?_
  intro p e s m args below meth c s₁ Bd hml0 hP hK
  obtain ⟨rfl, hZ, hh⟩ := hP
  have hx := Bd.exec
  have hby := Bd.bytes
  have hml : c.maxLocals = 9 := hml0
  have hown : s.vm.findClass "com/example/outpost/outpost/model/Distances" = some m.cls := findClass_of_methodNamed Bd.named
  have hnm := (name_of_methodNamed Bd.named Bd.method).1
  have X0 : Stand p l e ({ frames := 0, cells := 0, slots := 0, locals := 0 } : Room) s m #[(.int g), (.double d), (.int (1 : Int32)), (.int (2 : Int32)), (.ref u), (.ref w)] below meth c s₁ [] 0 0 := Stand.of_body Bd
  have e0 : s₁.heap = h0 := by rw [← hh, Bd.state]; rfl
  have N0 := Fr.nil n0
  have K0 := Keep.refl h0 [u, w]
  show own_Go p e below (fun o u L => FrameEnd s o u L ({ frames := 0, cells := 0, slots := 0, locals := 0 } : Room).cells ({ frames := 0, cells := 0, slots := 0, locals := 0 } : Room).slots) (Q_rm_keep_2_1_0 Z g d u w k3 k4 x0 x1 x2 x3 x4 x5 y0 y1 y2 y3 y4 y5 h0 n0) (s₁.setTop (entryFrame m #[(.int g), (.double d), (.int (1 : Int32)), (.int (2 : Int32)), (.ref u), (.ref w)] 9))
  rw [own_ef_rm_keep_2_1_0 m g d u w]
  show own_Go _ _ _ _ _ (State.setTop _ (mkF _ 0 #[.val (.int g), .val (.double d), .second, .val (.int (1 : Int32)), .val (.int (2 : Int32)), .val (.ref u), .val (.ref w), .unset, .unset] []))
  refine own_iloadN X0 hx 1 rfl (hb hby own_d1_0) rfl ?_
  refine own_iload X0 hx 3 rfl (hb hby own_d1_1) rfl ?_
  refine own_imul X0 hx 4 rfl (hb hby own_d1_3) (2 : Int32) rfl ?_
  refine own_istore X0 hx 6 rfl (hb hby own_d1_4) #[.val (.int g), .val (.double d), .second, .val (.int (1 : Int32)), .val (.int (2 : Int32)), .val (.ref u), .val (.ref w), .val (.int (2 : Int32)), .unset] rfl ?_
  refine own_iload X0 hx 8 rfl (hb hby own_d1_6) rfl ?_
  refine own_iload X0 hx 10 rfl (hb hby own_d1_8) rfl ?_
  refine own_iadd X0 hx 11 rfl (hb hby own_d1_10) (4 : Int32) rfl ?_
  refine own_iconst X0 hx 12 rfl (hb hby own_d1_11) (1 : Int32) rfl ?_
  refine own_isub X0 hx 13 rfl (hb hby own_d1_12) (3 : Int32) rfl ?_
  refine own_istore X0 hx 15 rfl (hb hby own_d1_13) #[.val (.int g), .val (.double d), .second, .val (.int (1 : Int32)), .val (.int (2 : Int32)), .val (.ref u), .val (.ref w), .val (.int (2 : Int32)), .val (.int (3 : Int32))] rfl ?_
  refine own_dloadN X0 hx 16 rfl (hb hby own_d1_15) rfl ?_
  refine own_aload X0 hx 18 rfl (hb hby own_d1_16) rfl rfl ?_
  refine own_iload X0 hx 20 rfl (hb hby own_d1_18) rfl ?_
  refine own_ldD X0 hx hZ e0 V1 ⟨by decide, by decide⟩ x3 rfl 21 rfl (hb hby own_d1_20) ?_
  refine own_dcmp X0 hx 22 rfl (hb hby own_d1_21) _ rfl ?_
  refine own_ifYes X0 hx 27 (hb hby own_d1_22) ((if0 _ _).trans (tlt hl).1) (by decide) rfl ?_
  refine own_iload X0 hx 29 rfl (hb hby own_d1_27) rfl ?_
  refine own_iload X0 hx 31 rfl (hb hby own_d1_29) rfl ?_
  refine own_icmpNo X0 hx 34 rfl (hb hby own_d1_31) (by decide) ?_
  refine own_aload X0 hx 36 rfl (hb hby own_d1_34) rfl rfl ?_
  refine own_iload X0 hx 38 rfl (hb hby own_d1_36) rfl ?_
  refine own_iconst X0 hx 39 rfl (hb hby own_d1_38) (1 : Int32) rfl ?_
  refine own_isub X0 hx 40 rfl (hb hby own_d1_39) (2 : Int32) rfl ?_
  refine own_ldD X0 hx hZ e0 V1 ⟨by decide, by decide⟩ x2 rfl 41 rfl (hb hby own_d1_40) ?_
  refine own_dloadN X0 hx 42 rfl (hb hby own_d1_41) rfl ?_
  refine own_dcmp X0 hx 43 rfl (hb hby own_d1_42) _ rfl ?_
  refine own_ifNo X0 hx 46 rfl (hb hby own_d1_43) ((if0 _ _).trans (tlt hs1).2.2.2) ?_
  refine own_aload X0 hx 48 rfl (hb hby own_d1_46) rfl rfl ?_
  refine own_iload X0 hx 50 rfl (hb hby own_d1_48) rfl ?_
  refine own_aload X0 hx 52 rfl (hb hby own_d1_50) rfl rfl ?_
  refine own_iload X0 hx 54 rfl (hb hby own_d1_52) rfl ?_
  refine own_iconst X0 hx 55 rfl (hb hby own_d1_54) (1 : Int32) rfl ?_
  refine own_isub X0 hx 56 rfl (hb hby own_d1_55) (2 : Int32) rfl ?_
  refine own_ldD X0 hx hZ e0 V1 ⟨by decide, by decide⟩ x2 rfl 57 rfl (hb hby own_d1_56) ?_
  refine own_stD X0 hx hZ e0 V1 ⟨by decide, by decide⟩ 3 rfl (Nat.le_of_ble_eq_true rfl) [(.double x0), (.double x1), (.double x2), (.double x2), (.double x4), (.double x5)] rfl 58 rfl (hb hby own_d1_57) fun T185 h185 X185 e185 W185 f186 => ?_
  have f187 := V2.other W185 (Ne.symm hne)
  have z188 := Nat.le_trans Z0 (Keep.of_wr W185).1
  have K189 := K0.wr W185 (Or.inl (List.mem_of_getElem? (i := 0) rfl))
  have N190 := Fr.snoc X185 N0 gu
  refine own_aload X185 hx 60 rfl (hb hby own_d1_58) rfl rfl ?_
  refine own_iload X185 hx 62 rfl (hb hby own_d1_60) rfl ?_
  refine own_aload X185 hx 64 rfl (hb hby own_d1_62) rfl rfl ?_
  refine own_iload X185 hx 66 rfl (hb hby own_d1_64) rfl ?_
  refine own_iconst X185 hx 67 rfl (hb hby own_d1_66) (1 : Int32) rfl ?_
  refine own_isub X185 hx 68 rfl (hb hby own_d1_67) (2 : Int32) rfl ?_
  refine own_ldI X185 hx hZ e185 f187 ⟨by decide, by decide⟩ y2 rfl 69 rfl (hb hby own_d1_68) ?_
  refine own_stI X185 hx hZ e185 f187 ⟨by decide, by decide⟩ 3 rfl (Nat.le_of_ble_eq_true rfl) [(.int y0), (.int y1), (.int y2), (.int y2), (.int y4), (.int y5)] rfl 70 rfl (hb hby own_d1_69) fun T191 h191 X191 e191 W191 f192 => ?_
  have f193 := f186.other W191 hne
  have z194 := Nat.le_trans z188 (Keep.of_wr W191).1
  have K195 := K189.wr W191 (Or.inl (List.mem_of_getElem? (i := 1) rfl))
  have N196 := Fr.snoc X191 N190 gw
  refine own_iinc X191 hx 73 rfl (hb hby own_d1_70) rfl #[.val (.int g), .val (.double d), .second, .val (.int (1 : Int32)), .val (.int (2 : Int32)), .val (.ref u), .val (.ref w), .val (.int (2 : Int32)), .val (.int (2 : Int32))] rfl ?_
  refine own_goto X191 hx 27 (hb hby own_d1_73) (by decide) rfl ?_
  refine own_iload X191 hx 29 rfl (hb hby own_d1_27) rfl ?_
  refine own_iload X191 hx 31 rfl (hb hby own_d1_29) rfl ?_
  refine own_icmpYes X191 hx 76 (hb hby own_d1_31) (by decide) (by decide) rfl ?_
  refine own_aload X191 hx 78 rfl (hb hby own_d1_76) rfl rfl ?_
  refine own_iload X191 hx 80 rfl (hb hby own_d1_78) rfl ?_
  refine own_dloadN X191 hx 81 rfl (hb hby own_d1_80) rfl ?_
  refine own_stD X191 hx hZ e191 f193 ⟨by decide, by decide⟩ 2 rfl (Nat.le_of_ble_eq_true rfl) [(.double x0), (.double x1), (.double d), (.double x2), (.double x4), (.double x5)] rfl 82 rfl (hb hby own_d1_81) fun T197 h197 X197 e197 W197 f198 => ?_
  have f199 := f192.other W197 (Ne.symm hne)
  have z200 := Nat.le_trans z194 (Keep.of_wr W197).1
  have K201 := K195.wr W197 (Or.inl (List.mem_of_getElem? (i := 0) rfl))
  have N202 := Fr.snoc X197 N196 gu
  refine own_aload X197 hx 84 rfl (hb hby own_d1_82) rfl rfl ?_
  refine own_iload X197 hx 86 rfl (hb hby own_d1_84) rfl ?_
  refine own_iloadN X197 hx 87 rfl (hb hby own_d1_86) rfl ?_
  refine own_stI X197 hx hZ e197 f199 ⟨by decide, by decide⟩ 2 rfl (Nat.le_of_ble_eq_true rfl) [(.int y0), (.int y1), (.int g), (.int y2), (.int y4), (.int y5)] rfl 88 rfl (hb hby own_d1_87) fun T203 h203 X203 e203 W203 f204 => ?_
  have f205 := f198.other W203 hne
  have z206 := Nat.le_trans z200 (Keep.of_wr W203).1
  have K207 := K201.wr W203 (Or.inl (List.mem_of_getElem? (i := 1) rfl))
  have N208 := Fr.snoc X203 N202 gw
  refine own_iconst X203 hx 89 rfl (hb hby own_d1_88) (1 : Int32) rfl ?_
  refine own_ret X203 (some (.int (1 : Int32))) (fun h => by rw [Bd.returns] at h; cases h) Bd.notSynchronized (by decide) (by decide) ?_ (fun fs hr => retN X203 hx (t := .boolean) Bd.returns (by simp) (hb hby own_d1_89) hr)
  show Q_rm_keep_2_1_0 Z g d u w k3 k4 x0 x1 x2 x3 x4 x5 y0 y1 y2 y3 y4 y5 h0 n0 _ T203.heap _
  rw [e203]
  exact ⟨rfl, N208, K207, f205, f204⟩
theorem own_ef_rm_keep_2_1_1 (m : MethodId) (g : Int32) (d : UInt64) (u : Addr) (w : Addr) : entryFrame m #[(.int g), (.double d), (.int (1 : Int32)), (.int (2 : Int32)), (.ref u), (.ref w)] 9 = mkF m 0 #[.val (.int g), .val (.double d), .second, .val (.int (1 : Int32)), .val (.int (2 : Int32)), .val (.ref u), .val (.ref w), .unset, .unset] [] := by first | (simp [entryFrame, mkF, argsToLocals, Value.category]; done) | rfl
def Q_rm_keep_2_1_1 (Z : State) (g : Int32) (d : UInt64) (u : Addr) (w : Addr) (k3 : ClassId) (k4 : ClassId) (x0 : UInt64) (x1 : UInt64) (x2 : UInt64) (x3 : UInt64) (x4 : UInt64) (x5 : UInt64) (y0 : Int32) (y1 : Int32) (y2 : Int32) (y3 : Int32) (y4 : Int32) (y5 : Int32) (h0 : Heap) (n0 : Nat) (v : Option Value) (h : Heap) (L : List Loc) : Prop := v = some (.int (1 : Int32)) ∧ Fr n0 L ∧ Keep h0 h [u, w] ∧ Arv Z h u k3 .double (6 : Int32) [(.double x0), (.double x1), (.double x2), (.double d), (.double x4), (.double x5)] (.double (0 : UInt64)) ∧ Arv Z h w k4 .int (6 : Int32) [(.int y0), (.int y1), (.int y2), (.int g), (.int y4), (.int y5)] (.int (0 : Int32))
set_option maxRecDepth 65536 in
set_option maxHeartbeats 40000000 in
theorem rm_keep_2_1_1 (l : Launch) (Z : State) (a0 : Array Value) (hw : ∀ d ∈ tables_1, d.before a0 Z = true) (ws : List Jvm.Cond) (g : Int32) (d : UInt64) (u : Addr) (w : Addr) (k3 : ClassId) (k4 : ClassId) (x0 : UInt64) (x1 : UInt64) (x2 : UInt64) (x3 : UInt64) (x4 : UInt64) (x5 : UInt64) (y0 : Int32) (y1 : Int32) (y2 : Int32) (y3 : Int32) (y4 : Int32) (y5 : Int32) (h0 : Heap) (n0 : Nat) (Z0 : n0 ≤ h0.size) (V1 : Arv Z h0 u k3 .double (6 : Int32) [(.double x0), (.double x1), (.double x2), (.double x3), (.double x4), (.double x5)] (.double (0 : UInt64))) (V2 : Arv Z h0 w k4 .int (6 : Int32) [(.int y0), (.int y1), (.int y2), (.int y3), (.int y4), (.int y5)] (.int (0 : Int32))) (hne : u ≠ w) (gu : n0 ≤ u) (gw : n0 ≤ w) (hl : cmpValue (FP.dcmp d x3) .g < 0) (hs1 : ¬ 0 < cmpValue (FP.dcmp x2 d) .l) :
    MetFree l (⟨"com/example/outpost/outpost/model/Distances", "keepNearer", "(IDII[D[I)Z"⟩ : MethodName) (head1 (Jvm.Cond.code (⟨"com/example/outpost/outpost/model/Distances", "keepNearer", "(IDII[D[I)Z"⟩ : MethodName) prog_60_method_9_code 9 (some .boolean) :: ws) ({ frames := 0, cells := 0, slots := 0, locals := 0 } : Room)) (fun aa U => aa = #[(.int g), (.double d), (.int (1 : Int32)), (.int (2 : Int32)), (.ref u), (.ref w)] ∧ Z.Warmed39 U.vm ∧ U.heap = h0) (fun _ _ _ _ _ => True) (fun _ U ou U' => ∃ v L, ou = .returned v ∧ Q_rm_keep_2_1_1 Z g d u w k3 k4 x0 x1 x2 x3 x4 x5 y0 y1 y2 y3 y4 y5 h0 n0 v U'.heap L ∧ FrameEnd U ou U' L ({ frames := 0, cells := 0, slots := 0, locals := 0 } : Room).cells ({ frames := 0, cells := 0, slots := 0, locals := 0 } : Room).slots) := by
  refine MetFree.of_bodySF (plainFor_of_name own_pn1) hisR ?_
  intro p e s m args below meth c s₁ Bd hml0 hP hK
  obtain ⟨rfl, hZ, hh⟩ := hP
  have hx := Bd.exec
  have hby := Bd.bytes
  have hml : c.maxLocals = 9 := hml0
  have hown : s.vm.findClass "com/example/outpost/outpost/model/Distances" = some m.cls := findClass_of_methodNamed Bd.named
  have hnm := (name_of_methodNamed Bd.named Bd.method).1
  have X0 : Stand p l e ({ frames := 0, cells := 0, slots := 0, locals := 0 } : Room) s m #[(.int g), (.double d), (.int (1 : Int32)), (.int (2 : Int32)), (.ref u), (.ref w)] below meth c s₁ [] 0 0 := Stand.of_body Bd
  have e0 : s₁.heap = h0 := by rw [← hh, Bd.state]; rfl
  have N0 := Fr.nil n0
  have K0 := Keep.refl h0 [u, w]
  show own_Go p e below (fun o u L => FrameEnd s o u L ({ frames := 0, cells := 0, slots := 0, locals := 0 } : Room).cells ({ frames := 0, cells := 0, slots := 0, locals := 0 } : Room).slots) (Q_rm_keep_2_1_1 Z g d u w k3 k4 x0 x1 x2 x3 x4 x5 y0 y1 y2 y3 y4 y5 h0 n0) (s₁.setTop (entryFrame m #[(.int g), (.double d), (.int (1 : Int32)), (.int (2 : Int32)), (.ref u), (.ref w)] 9))
  rw [own_ef_rm_keep_2_1_1 m g d u w]
  show own_Go _ _ _ _ _ (State.setTop _ (mkF _ 0 #[.val (.int g), .val (.double d), .second, .val (.int (1 : Int32)), .val (.int (2 : Int32)), .val (.ref u), .val (.ref w), .unset, .unset] []))
  refine own_iloadN X0 hx 1 rfl (hb hby own_d1_0) rfl ?_
  refine own_iload X0 hx 3 rfl (hb hby own_d1_1) rfl ?_
  refine own_imul X0 hx 4 rfl (hb hby own_d1_3) (2 : Int32) rfl ?_
  refine own_istore X0 hx 6 rfl (hb hby own_d1_4) #[.val (.int g), .val (.double d), .second, .val (.int (1 : Int32)), .val (.int (2 : Int32)), .val (.ref u), .val (.ref w), .val (.int (2 : Int32)), .unset] rfl ?_
  refine own_iload X0 hx 8 rfl (hb hby own_d1_6) rfl ?_
  refine own_iload X0 hx 10 rfl (hb hby own_d1_8) rfl ?_
  refine own_iadd X0 hx 11 rfl (hb hby own_d1_10) (4 : Int32) rfl ?_
  refine own_iconst X0 hx 12 rfl (hb hby own_d1_11) (1 : Int32) rfl ?_
  refine own_isub X0 hx 13 rfl (hb hby own_d1_12) (3 : Int32) rfl ?_
  refine own_istore X0 hx 15 rfl (hb hby own_d1_13) #[.val (.int g), .val (.double d), .second, .val (.int (1 : Int32)), .val (.int (2 : Int32)), .val (.ref u), .val (.ref w), .val (.int (2 : Int32)), .val (.int (3 : Int32))] rfl ?_
  refine own_dloadN X0 hx 16 rfl (hb hby own_d1_15) rfl ?_
  refine own_aload X0 hx 18 rfl (hb hby own_d1_16) rfl rfl ?_
  refine own_iload X0 hx 20 rfl (hb hby own_d1_18) rfl ?_
  refine own_ldD X0 hx hZ e0 V1 ⟨by decide, by decide⟩ x3 rfl 21 rfl (hb hby own_d1_20) ?_
  refine own_dcmp X0 hx 22 rfl (hb hby own_d1_21) _ rfl ?_
  refine own_ifYes X0 hx 27 (hb hby own_d1_22) ((if0 _ _).trans (tlt hl).1) (by decide) rfl ?_
  refine own_iload X0 hx 29 rfl (hb hby own_d1_27) rfl ?_
  refine own_iload X0 hx 31 rfl (hb hby own_d1_29) rfl ?_
  refine own_icmpNo X0 hx 34 rfl (hb hby own_d1_31) (by decide) ?_
  refine own_aload X0 hx 36 rfl (hb hby own_d1_34) rfl rfl ?_
  refine own_iload X0 hx 38 rfl (hb hby own_d1_36) rfl ?_
  refine own_iconst X0 hx 39 rfl (hb hby own_d1_38) (1 : Int32) rfl ?_
  refine own_isub X0 hx 40 rfl (hb hby own_d1_39) (2 : Int32) rfl ?_
  refine own_ldD X0 hx hZ e0 V1 ⟨by decide, by decide⟩ x2 rfl 41 rfl (hb hby own_d1_40) ?_
  refine own_dloadN X0 hx 42 rfl (hb hby own_d1_41) rfl ?_
  refine own_dcmp X0 hx 43 rfl (hb hby own_d1_42) _ rfl ?_
  refine own_ifYes X0 hx 76 (hb hby own_d1_43) ((if0 _ _).trans (flt hs1).2.2.2) (by decide) rfl ?_
  refine own_aload X0 hx 78 rfl (hb hby own_d1_76) rfl rfl ?_
  refine own_iload X0 hx 80 rfl (hb hby own_d1_78) rfl ?_
  refine own_dloadN X0 hx 81 rfl (hb hby own_d1_80) rfl ?_
  refine own_stD X0 hx hZ e0 V1 ⟨by decide, by decide⟩ 3 rfl (Nat.le_of_ble_eq_true rfl) [(.double x0), (.double x1), (.double x2), (.double d), (.double x4), (.double x5)] rfl 82 rfl (hb hby own_d1_81) fun T209 h209 X209 e209 W209 f210 => ?_
  have f211 := V2.other W209 (Ne.symm hne)
  have z212 := Nat.le_trans Z0 (Keep.of_wr W209).1
  have K213 := K0.wr W209 (Or.inl (List.mem_of_getElem? (i := 0) rfl))
  have N214 := Fr.snoc X209 N0 gu
  refine own_aload X209 hx 84 rfl (hb hby own_d1_82) rfl rfl ?_
  refine own_iload X209 hx 86 rfl (hb hby own_d1_84) rfl ?_
  refine own_iloadN X209 hx 87 rfl (hb hby own_d1_86) rfl ?_
  refine own_stI X209 hx hZ e209 f211 ⟨by decide, by decide⟩ 3 rfl (Nat.le_of_ble_eq_true rfl) [(.int y0), (.int y1), (.int y2), (.int g), (.int y4), (.int y5)] rfl 88 rfl (hb hby own_d1_87) fun T215 h215 X215 e215 W215 f216 => ?_
  have f217 := f210.other W215 hne
  have z218 := Nat.le_trans z212 (Keep.of_wr W215).1
  have K219 := K213.wr W215 (Or.inl (List.mem_of_getElem? (i := 1) rfl))
  have N220 := Fr.snoc X215 N214 gw
  refine own_iconst X215 hx 89 rfl (hb hby own_d1_88) (1 : Int32) rfl ?_
  refine own_ret X215 (some (.int (1 : Int32))) (fun h => by rw [Bd.returns] at h; cases h) Bd.notSynchronized (by decide) (by decide) ?_ (fun fs hr => retN X215 hx (t := .boolean) Bd.returns (by simp) (hb hby own_d1_89) hr)
  show Q_rm_keep_2_1_1 Z g d u w k3 k4 x0 x1 x2 x3 x4 x5 y0 y1 y2 y3 y4 y5 h0 n0 _ T215.heap _
  rw [e215]
  exact ⟨rfl, N220, K219, f217, f216⟩
theorem own_ef_rm_keep_3_0_n (m : MethodId) (g : Int32) (d : UInt64) (u : Addr) (w : Addr) : entryFrame m #[(.int g), (.double d), (.int (0 : Int32)), (.int (3 : Int32)), (.ref u), (.ref w)] 9 = mkF m 0 #[.val (.int g), .val (.double d), .second, .val (.int (0 : Int32)), .val (.int (3 : Int32)), .val (.ref u), .val (.ref w), .unset, .unset] [] := by first | (simp [entryFrame, mkF, argsToLocals, Value.category]; done) | rfl
def Q_rm_keep_3_0_n (Z : State) (g : Int32) (d : UInt64) (u : Addr) (w : Addr) (k3 : ClassId) (k4 : ClassId) (x0 : UInt64) (x1 : UInt64) (x2 : UInt64) (x3 : UInt64) (x4 : UInt64) (x5 : UInt64) (y0 : Int32) (y1 : Int32) (y2 : Int32) (y3 : Int32) (y4 : Int32) (y5 : Int32) (h0 : Heap) (n0 : Nat) (v : Option Value) (h : Heap) (L : List Loc) : Prop := v = some (.int (0 : Int32)) ∧ Fr n0 L ∧ Keep h0 h [u, w] ∧ Arv Z h u k3 .double (6 : Int32) [(.double x0), (.double x1), (.double x2), (.double x3), (.double x4), (.double x5)] (.double (0 : UInt64)) ∧ Arv Z h w k4 .int (6 : Int32) [(.int y0), (.int y1), (.int y2), (.int y3), (.int y4), (.int y5)] (.int (0 : Int32))
set_option maxRecDepth 65536 in
set_option maxHeartbeats 40000000 in
theorem rm_keep_3_0_n (l : Launch) (Z : State) (a0 : Array Value) (hw : ∀ d ∈ tables_1, d.before a0 Z = true) (ws : List Jvm.Cond) (g : Int32) (d : UInt64) (u : Addr) (w : Addr) (k3 : ClassId) (k4 : ClassId) (x0 : UInt64) (x1 : UInt64) (x2 : UInt64) (x3 : UInt64) (x4 : UInt64) (x5 : UInt64) (y0 : Int32) (y1 : Int32) (y2 : Int32) (y3 : Int32) (y4 : Int32) (y5 : Int32) (h0 : Heap) (n0 : Nat) (Z0 : n0 ≤ h0.size) (V1 : Arv Z h0 u k3 .double (6 : Int32) [(.double x0), (.double x1), (.double x2), (.double x3), (.double x4), (.double x5)] (.double (0 : UInt64))) (V2 : Arv Z h0 w k4 .int (6 : Int32) [(.int y0), (.int y1), (.int y2), (.int y3), (.int y4), (.int y5)] (.int (0 : Int32))) (hne : u ≠ w) (gu : n0 ≤ u) (gw : n0 ≤ w) (hl : ¬ cmpValue (FP.dcmp d x2) .g < 0) :
    MetFree l (⟨"com/example/outpost/outpost/model/Distances", "keepNearer", "(IDII[D[I)Z"⟩ : MethodName) (head1 (Jvm.Cond.code (⟨"com/example/outpost/outpost/model/Distances", "keepNearer", "(IDII[D[I)Z"⟩ : MethodName) prog_60_method_9_code 9 (some .boolean) :: ws) ({ frames := 0, cells := 0, slots := 0, locals := 0 } : Room)) (fun aa U => aa = #[(.int g), (.double d), (.int (0 : Int32)), (.int (3 : Int32)), (.ref u), (.ref w)] ∧ Z.Warmed39 U.vm ∧ U.heap = h0) (fun _ _ _ _ _ => True) (fun _ U ou U' => ∃ v L, ou = .returned v ∧ Q_rm_keep_3_0_n Z g d u w k3 k4 x0 x1 x2 x3 x4 x5 y0 y1 y2 y3 y4 y5 h0 n0 v U'.heap L ∧ FrameEnd U ou U' L ({ frames := 0, cells := 0, slots := 0, locals := 0 } : Room).cells ({ frames := 0, cells := 0, slots := 0, locals := 0 } : Room).slots) := by
  refine MetFree.of_bodySF (plainFor_of_name own_pn1) hisR ?_
  intro p e s m args below meth c s₁ Bd hml0 hP hK
  obtain ⟨rfl, hZ, hh⟩ := hP
  have hx := Bd.exec
  have hby := Bd.bytes
  have hml : c.maxLocals = 9 := hml0
  have hown : s.vm.findClass "com/example/outpost/outpost/model/Distances" = some m.cls := findClass_of_methodNamed Bd.named
  have hnm := (name_of_methodNamed Bd.named Bd.method).1
  have X0 : Stand p l e ({ frames := 0, cells := 0, slots := 0, locals := 0 } : Room) s m #[(.int g), (.double d), (.int (0 : Int32)), (.int (3 : Int32)), (.ref u), (.ref w)] below meth c s₁ [] 0 0 := Stand.of_body Bd
  have e0 : s₁.heap = h0 := by rw [← hh, Bd.state]; rfl
  have N0 := Fr.nil n0
  have K0 := Keep.refl h0 [u, w]
  show own_Go p e below (fun o u L => FrameEnd s o u L ({ frames := 0, cells := 0, slots := 0, locals := 0 } : Room).cells ({ frames := 0, cells := 0, slots := 0, locals := 0 } : Room).slots) (Q_rm_keep_3_0_n Z g d u w k3 k4 x0 x1 x2 x3 x4 x5 y0 y1 y2 y3 y4 y5 h0 n0) (s₁.setTop (entryFrame m #[(.int g), (.double d), (.int (0 : Int32)), (.int (3 : Int32)), (.ref u), (.ref w)] 9))
  rw [own_ef_rm_keep_3_0_n m g d u w]
  show own_Go _ _ _ _ _ (State.setTop _ (mkF _ 0 #[.val (.int g), .val (.double d), .second, .val (.int (0 : Int32)), .val (.int (3 : Int32)), .val (.ref u), .val (.ref w), .unset, .unset] []))
  refine own_iloadN X0 hx 1 rfl (hb hby own_d1_0) rfl ?_
  refine own_iload X0 hx 3 rfl (hb hby own_d1_1) rfl ?_
  refine own_imul X0 hx 4 rfl (hb hby own_d1_3) (0 : Int32) rfl ?_
  refine own_istore X0 hx 6 rfl (hb hby own_d1_4) #[.val (.int g), .val (.double d), .second, .val (.int (0 : Int32)), .val (.int (3 : Int32)), .val (.ref u), .val (.ref w), .val (.int (0 : Int32)), .unset] rfl ?_
  refine own_iload X0 hx 8 rfl (hb hby own_d1_6) rfl ?_
  refine own_iload X0 hx 10 rfl (hb hby own_d1_8) rfl ?_
  refine own_iadd X0 hx 11 rfl (hb hby own_d1_10) (3 : Int32) rfl ?_
  refine own_iconst X0 hx 12 rfl (hb hby own_d1_11) (1 : Int32) rfl ?_
  refine own_isub X0 hx 13 rfl (hb hby own_d1_12) (2 : Int32) rfl ?_
  refine own_istore X0 hx 15 rfl (hb hby own_d1_13) #[.val (.int g), .val (.double d), .second, .val (.int (0 : Int32)), .val (.int (3 : Int32)), .val (.ref u), .val (.ref w), .val (.int (0 : Int32)), .val (.int (2 : Int32))] rfl ?_
  refine own_dloadN X0 hx 16 rfl (hb hby own_d1_15) rfl ?_
  refine own_aload X0 hx 18 rfl (hb hby own_d1_16) rfl rfl ?_
  refine own_iload X0 hx 20 rfl (hb hby own_d1_18) rfl ?_
  refine own_ldD X0 hx hZ e0 V1 ⟨by decide, by decide⟩ x2 rfl 21 rfl (hb hby own_d1_20) ?_
  refine own_dcmp X0 hx 22 rfl (hb hby own_d1_21) _ rfl ?_
  refine own_ifNo X0 hx 25 rfl (hb hby own_d1_22) ((if0 _ _).trans (flt hl).1) ?_
  refine own_iconst X0 hx 26 rfl (hb hby own_d1_25) (0 : Int32) rfl ?_
  refine own_ret X0 (some (.int (0 : Int32))) (fun h => by rw [Bd.returns] at h; cases h) Bd.notSynchronized (by decide) (by decide) ?_ (fun fs hr => retN X0 hx (t := .boolean) Bd.returns (by simp) (hb hby own_d1_26) hr)
  show Q_rm_keep_3_0_n Z g d u w k3 k4 x0 x1 x2 x3 x4 x5 y0 y1 y2 y3 y4 y5 h0 n0 _ s₁.heap _
  rw [e0]
  exact ⟨rfl, N0, K0, V1, V2⟩
theorem own_ef_rm_keep_3_0_0 (m : MethodId) (g : Int32) (d : UInt64) (u : Addr) (w : Addr) : entryFrame m #[(.int g), (.double d), (.int (0 : Int32)), (.int (3 : Int32)), (.ref u), (.ref w)] 9 = mkF m 0 #[.val (.int g), .val (.double d), .second, .val (.int (0 : Int32)), .val (.int (3 : Int32)), .val (.ref u), .val (.ref w), .unset, .unset] [] := by first | (simp [entryFrame, mkF, argsToLocals, Value.category]; done) | rfl
def Q_rm_keep_3_0_0 (Z : State) (g : Int32) (d : UInt64) (u : Addr) (w : Addr) (k3 : ClassId) (k4 : ClassId) (x0 : UInt64) (x1 : UInt64) (x2 : UInt64) (x3 : UInt64) (x4 : UInt64) (x5 : UInt64) (y0 : Int32) (y1 : Int32) (y2 : Int32) (y3 : Int32) (y4 : Int32) (y5 : Int32) (h0 : Heap) (n0 : Nat) (v : Option Value) (h : Heap) (L : List Loc) : Prop := v = some (.int (1 : Int32)) ∧ Fr n0 L ∧ Keep h0 h [u, w] ∧ Arv Z h u k3 .double (6 : Int32) [(.double d), (.double x0), (.double x1), (.double x3), (.double x4), (.double x5)] (.double (0 : UInt64)) ∧ Arv Z h w k4 .int (6 : Int32) [(.int g), (.int y0), (.int y1), (.int y3), (.int y4), (.int y5)] (.int (0 : Int32))
set_option maxRecDepth 65536 in
set_option maxHeartbeats 40000000 in
theorem rm_keep_3_0_0 (l : Launch) (Z : State) (a0 : Array Value) (hw : ∀ d ∈ tables_1, d.before a0 Z = true) (ws : List Jvm.Cond) (g : Int32) (d : UInt64) (u : Addr) (w : Addr) (k3 : ClassId) (k4 : ClassId) (x0 : UInt64) (x1 : UInt64) (x2 : UInt64) (x3 : UInt64) (x4 : UInt64) (x5 : UInt64) (y0 : Int32) (y1 : Int32) (y2 : Int32) (y3 : Int32) (y4 : Int32) (y5 : Int32) (h0 : Heap) (n0 : Nat) (Z0 : n0 ≤ h0.size) (V1 : Arv Z h0 u k3 .double (6 : Int32) [(.double x0), (.double x1), (.double x2), (.double x3), (.double x4), (.double x5)] (.double (0 : UInt64))) (V2 : Arv Z h0 w k4 .int (6 : Int32) [(.int y0), (.int y1), (.int y2), (.int y3), (.int y4), (.int y5)] (.int (0 : Int32))) (hne : u ≠ w) (gu : n0 ≤ u) (gw : n0 ≤ w) (hl : cmpValue (FP.dcmp d x2) .g < 0) (hs2 : 0 < cmpValue (FP.dcmp x1 d) .l) (hs1 : 0 < cmpValue (FP.dcmp x0 d) .l) :
    MetFree l (⟨"com/example/outpost/outpost/model/Distances", "keepNearer", "(IDII[D[I)Z"⟩ : MethodName) (head1 (Jvm.Cond.code (⟨"com/example/outpost/outpost/model/Distances", "keepNearer", "(IDII[D[I)Z"⟩ : MethodName) prog_60_method_9_code 9 (some .boolean) :: ws) ({ frames := 0, cells := 0, slots := 0, locals := 0 } : Room)) (fun aa U => aa = #[(.int g), (.double d), (.int (0 : Int32)), (.int (3 : Int32)), (.ref u), (.ref w)] ∧ Z.Warmed39 U.vm ∧ U.heap = h0) (fun _ _ _ _ _ => True) (fun _ U ou U' => ∃ v L, ou = .returned v ∧ Q_rm_keep_3_0_0 Z g d u w k3 k4 x0 x1 x2 x3 x4 x5 y0 y1 y2 y3 y4 y5 h0 n0 v U'.heap L ∧ FrameEnd U ou U' L ({ frames := 0, cells := 0, slots := 0, locals := 0 } : Room).cells ({ frames := 0, cells := 0, slots := 0, locals := 0 } : Room).slots) := by
  refine MetFree.of_bodySF (plainFor_of_name own_pn1) hisR ?_
  intro p e s m args below meth c s₁ Bd hml0 hP hK
  obtain ⟨rfl, hZ, hh⟩ := hP
  have hx := Bd.exec
  have hby := Bd.bytes
  have hml : c.maxLocals = 9 := hml0
  have hown : s.vm.findClass "com/example/outpost/outpost/model/Distances" = some m.cls := findClass_of_methodNamed Bd.named
  have hnm := (name_of_methodNamed Bd.named Bd.method).1
  have X0 : Stand p l e ({ frames := 0, cells := 0, slots := 0, locals := 0 } : Room) s m #[(.int g), (.double d), (.int (0 : Int32)), (.int (3 : Int32)), (.ref u), (.ref w)] below meth c s₁ [] 0 0 := Stand.of_body Bd
  have e0 : s₁.heap = h0 := by rw [← hh, Bd.state]; rfl
  have N0 := Fr.nil n0
  have K0 := Keep.refl h0 [u, w]
  show own_Go p e below (fun o u L => FrameEnd s o u L ({ frames := 0, cells := 0, slots := 0, locals := 0 } : Room).cells ({ frames := 0, cells := 0, slots := 0, locals := 0 } : Room).slots) (Q_rm_keep_3_0_0 Z g d u w k3 k4 x0 x1 x2 x3 x4 x5 y0 y1 y2 y3 y4 y5 h0 n0) (s₁.setTop (entryFrame m #[(.int g), (.double d), (.int (0 : Int32)), (.int (3 : Int32)), (.ref u), (.ref w)] 9))
  rw [own_ef_rm_keep_3_0_0 m g d u w]
  show own_Go _ _ _ _ _ (State.setTop _ (mkF _ 0 #[.val (.int g), .val (.double d), .second, .val (.int (0 : Int32)), .val (.int (3 : Int32)), .val (.ref u), .val (.ref w), .unset, .unset] []))
  refine own_iloadN X0 hx 1 rfl (hb hby own_d1_0) rfl ?_
  refine own_iload X0 hx 3 rfl (hb hby own_d1_1) rfl ?_
  refine own_imul X0 hx 4 rfl (hb hby own_d1_3) (0 : Int32) rfl ?_
  refine own_istore X0 hx 6 rfl (hb hby own_d1_4) #[.val (.int g), .val (.double d), .second, .val (.int (0 : Int32)), .val (.int (3 : Int32)), .val (.ref u), .val (.ref w), .val (.int (0 : Int32)), .unset] rfl ?_
  refine own_iload X0 hx 8 rfl (hb hby own_d1_6) rfl ?_
  refine own_iload X0 hx 10 rfl (hb hby own_d1_8) rfl ?_
  refine own_iadd X0 hx 11 rfl (hb hby own_d1_10) (3 : Int32) rfl ?_
  refine own_iconst X0 hx 12 rfl (hb hby own_d1_11) (1 : Int32) rfl ?_
  refine own_isub X0 hx 13 rfl (hb hby own_d1_12) (2 : Int32) rfl ?_
  refine own_istore X0 hx 15 rfl (hb hby own_d1_13) #[.val (.int g), .val (.double d), .second, .val (.int (0 : Int32)), .val (.int (3 : Int32)), .val (.ref u), .val (.ref w), .val (.int (0 : Int32)), .val (.int (2 : Int32))] rfl ?_
  refine own_dloadN X0 hx 16 rfl (hb hby own_d1_15) rfl ?_
  refine own_aload X0 hx 18 rfl (hb hby own_d1_16) rfl rfl ?_
  refine own_iload X0 hx 20 rfl (hb hby own_d1_18) rfl ?_
  refine own_ldD X0 hx hZ e0 V1 ⟨by decide, by decide⟩ x2 rfl 21 rfl (hb hby own_d1_20) ?_
  refine own_dcmp X0 hx 22 rfl (hb hby own_d1_21) _ rfl ?_
  refine own_ifYes X0 hx 27 (hb hby own_d1_22) ((if0 _ _).trans (tlt hl).1) (by decide) rfl ?_
  refine own_iload X0 hx 29 rfl (hb hby own_d1_27) rfl ?_
  refine own_iload X0 hx 31 rfl (hb hby own_d1_29) rfl ?_
  refine own_icmpNo X0 hx 34 rfl (hb hby own_d1_31) (by decide) ?_
  refine own_aload X0 hx 36 rfl (hb hby own_d1_34) rfl rfl ?_
  refine own_iload X0 hx 38 rfl (hb hby own_d1_36) rfl ?_
  refine own_iconst X0 hx 39 rfl (hb hby own_d1_38) (1 : Int32) rfl ?_
  refine own_isub X0 hx 40 rfl (hb hby own_d1_39) (1 : Int32) rfl ?_
  refine own_ldD X0 hx hZ e0 V1 ⟨by decide, by decide⟩ x1 rfl 41 rfl (hb hby own_d1_40) ?_
  refine own_dloadN X0 hx 42 rfl (hb hby own_d1_41) rfl ?_
  refine own_dcmp X0 hx 43 rfl (hb hby own_d1_42) _ rfl ?_
  refine own_ifNo X0 hx 46 rfl (hb hby own_d1_43) ((if0 _ _).trans (tlt hs2).2.2.2) ?_
  refine own_aload X0 hx 48 rfl (hb hby own_d1_46) rfl rfl ?_
  refine own_iload X0 hx 50 rfl (hb hby own_d1_48) rfl ?_
  refine own_aload X0 hx 52 rfl (hb hby own_d1_50) rfl rfl ?_
  refine own_iload X0 hx 54 rfl (hb hby own_d1_52) rfl ?_
  refine own_iconst X0 hx 55 rfl (hb hby own_d1_54) (1 : Int32) rfl ?_
  refine own_isub X0 hx 56 rfl (hb hby own_d1_55) (1 : Int32) rfl ?_
  refine own_ldD X0 hx hZ e0 V1 ⟨by decide, by decide⟩ x1 rfl 57 rfl (hb hby own_d1_56) ?_
  refine own_stD X0 hx hZ e0 V1 ⟨by decide, by decide⟩ 2 rfl (Nat.le_of_ble_eq_true rfl) [(.double x0), (.double x1), (.double x1), (.double x3), (.double x4), (.double x5)] rfl 58 rfl (hb hby own_d1_57) fun T221 h221 X221 e221 W221 f222 => ?_
  have f223 := V2.other W221 (Ne.symm hne)
  have z224 := Nat.le_trans Z0 (Keep.of_wr W221).1
  have K225 := K0.wr W221 (Or.inl (List.mem_of_getElem? (i := 0) rfl))
  have N226 := Fr.snoc X221 N0 gu
  refine own_aload X221 hx 60 rfl (hb hby own_d1_58) rfl rfl ?_
  refine own_iload X221 hx 62 rfl (hb hby own_d1_60) rfl ?_
  refine own_aload X221 hx 64 rfl (hb hby own_d1_62) rfl rfl ?_
  refine own_iload X221 hx 66 rfl (hb hby own_d1_64) rfl ?_
  refine own_iconst X221 hx 67 rfl (hb hby own_d1_66) (1 : Int32) rfl ?_
  refine own_isub X221 hx 68 rfl (hb hby own_d1_67) (1 : Int32) rfl ?_
  refine own_ldI X221 hx hZ e221 f223 ⟨by decide, by decide⟩ y1 rfl 69 rfl (hb hby own_d1_68) ?_
  refine own_stI X221 hx hZ e221 f223 ⟨by decide, by decide⟩ 2 rfl (Nat.le_of_ble_eq_true rfl) [(.int y0), (.int y1), (.int y1), (.int y3), (.int y4), (.int y5)] rfl 70 rfl (hb hby own_d1_69) fun T227 h227 X227 e227 W227 f228 => ?_
  have f229 := f222.other W227 hne
  have z230 := Nat.le_trans z224 (Keep.of_wr W227).1
  have K231 := K225.wr W227 (Or.inl (List.mem_of_getElem? (i := 1) rfl))
  have N232 := Fr.snoc X227 N226 gw
  refine own_iinc X227 hx 73 rfl (hb hby own_d1_70) rfl #[.val (.int g), .val (.double d), .second, .val (.int (0 : Int32)), .val (.int (3 : Int32)), .val (.ref u), .val (.ref w), .val (.int (0 : Int32)), .val (.int (1 : Int32))] rfl ?_
  refine own_goto X227 hx 27 (hb hby own_d1_73) (by decide) rfl ?_
  refine own_iload X227 hx 29 rfl (hb hby own_d1_27) rfl ?_
  refine own_iload X227 hx 31 rfl (hb hby own_d1_29) rfl ?_
  refine own_icmpNo X227 hx 34 rfl (hb hby own_d1_31) (by decide) ?_
  refine own_aload X227 hx 36 rfl (hb hby own_d1_34) rfl rfl ?_
  refine own_iload X227 hx 38 rfl (hb hby own_d1_36) rfl ?_
  refine own_iconst X227 hx 39 rfl (hb hby own_d1_38) (1 : Int32) rfl ?_
  refine own_isub X227 hx 40 rfl (hb hby own_d1_39) (0 : Int32) rfl ?_
  refine own_ldD X227 hx hZ e227 f229 ⟨by decide, by decide⟩ x0 rfl 41 rfl (hb hby own_d1_40) ?_
  refine own_dloadN X227 hx 42 rfl (hb hby own_d1_41) rfl ?_
  refine own_dcmp X227 hx 43 rfl (hb hby own_d1_42) _ rfl ?_
  refine own_ifNo X227 hx 46 rfl (hb hby own_d1_43) ((if0 _ _).trans (tlt hs1).2.2.2) ?_
  refine own_aload X227 hx 48 rfl (hb hby own_d1_46) rfl rfl ?_
  refine own_iload X227 hx 50 rfl (hb hby own_d1_48) rfl ?_
  refine own_aload X227 hx 52 rfl (hb hby own_d1_50) rfl rfl ?_
  refine own_iload X227 hx 54 rfl (hb hby own_d1_52) rfl ?_
  refine own_iconst X227 hx 55 rfl (hb hby own_d1_54) (1 : Int32) rfl ?_
  refine own_isub X227 hx 56 rfl (hb hby own_d1_55) (0 : Int32) rfl ?_
  refine own_ldD X227 hx hZ e227 f229 ⟨by decide, by decide⟩ x0 rfl 57 rfl (hb hby own_d1_56) ?_
  refine own_stD X227 hx hZ e227 f229 ⟨by decide, by decide⟩ 1 rfl (Nat.le_of_ble_eq_true rfl) [(.double x0), (.double x0), (.double x1), (.double x3), (.double x4), (.double x5)] rfl 58 rfl (hb hby own_d1_57) fun T233 h233 X233 e233 W233 f234 => ?_
  have f235 := f228.other W233 (Ne.symm hne)
  have z236 := Nat.le_trans z230 (Keep.of_wr W233).1
  have K237 := K231.wr W233 (Or.inl (List.mem_of_getElem? (i := 0) rfl))
  have N238 := Fr.snoc X233 N232 gu
  refine own_aload X233 hx 60 rfl (hb hby own_d1_58) rfl rfl ?_
  refine own_iload X233 hx 62 rfl (hb hby own_d1_60) rfl ?_
  refine own_aload X233 hx 64 rfl (hb hby own_d1_62) rfl rfl ?_
  refine own_iload X233 hx 66 rfl (hb hby own_d1_64) rfl ?_
  refine own_iconst X233 hx 67 rfl (hb hby own_d1_66) (1 : Int32) rfl ?_
  refine own_isub X233 hx 68 rfl (hb hby own_d1_67) (0 : Int32) rfl ?_
  refine own_ldI X233 hx hZ e233 f235 ⟨by decide, by decide⟩ y0 rfl 69 rfl (hb hby own_d1_68) ?_
  refine own_stI X233 hx hZ e233 f235 ⟨by decide, by decide⟩ 1 rfl (Nat.le_of_ble_eq_true rfl) [(.int y0), (.int y0), (.int y1), (.int y3), (.int y4), (.int y5)] rfl 70 rfl (hb hby own_d1_69) fun T239 h239 X239 e239 W239 f240 => ?_
  have f241 := f234.other W239 hne
  have z242 := Nat.le_trans z236 (Keep.of_wr W239).1
  have K243 := K237.wr W239 (Or.inl (List.mem_of_getElem? (i := 1) rfl))
  have N244 := Fr.snoc X239 N238 gw
  refine own_iinc X239 hx 73 rfl (hb hby own_d1_70) rfl #[.val (.int g), .val (.double d), .second, .val (.int (0 : Int32)), .val (.int (3 : Int32)), .val (.ref u), .val (.ref w), .val (.int (0 : Int32)), .val (.int (0 : Int32))] rfl ?_
  refine own_goto X239 hx 27 (hb hby own_d1_73) (by decide) rfl ?_
  refine own_iload X239 hx 29 rfl (hb hby own_d1_27) rfl ?_
  refine own_iload X239 hx 31 rfl (hb hby own_d1_29) rfl ?_
  refine own_icmpYes X239 hx 76 (hb hby own_d1_31) (by decide) (by decide) rfl ?_
  refine own_aload X239 hx 78 rfl (hb hby own_d1_76) rfl rfl ?_
  refine own_iload X239 hx 80 rfl (hb hby own_d1_78) rfl ?_
  refine own_dloadN X239 hx 81 rfl (hb hby own_d1_80) rfl ?_
  refine own_stD X239 hx hZ e239 f241 ⟨by decide, by decide⟩ 0 rfl (Nat.le_of_ble_eq_true rfl) [(.double d), (.double x0), (.double x1), (.double x3), (.double x4), (.double x5)] rfl 82 rfl (hb hby own_d1_81) fun T245 h245 X245 e245 W245 f246 => ?_
  have f247 := f240.other W245 (Ne.symm hne)
  have z248 := Nat.le_trans z242 (Keep.of_wr W245).1
  have K249 := K243.wr W245 (Or.inl (List.mem_of_getElem? (i := 0) rfl))
  have N250 := Fr.snoc X245 N244 gu
  refine own_aload X245 hx 84 rfl (hb hby own_d1_82) rfl rfl ?_
  refine own_iload X245 hx 86 rfl (hb hby own_d1_84) rfl ?_
  refine own_iloadN X245 hx 87 rfl (hb hby own_d1_86) rfl ?_
  refine own_stI X245 hx hZ e245 f247 ⟨by decide, by decide⟩ 0 rfl (Nat.le_of_ble_eq_true rfl) [(.int g), (.int y0), (.int y1), (.int y3), (.int y4), (.int y5)] rfl 88 rfl (hb hby own_d1_87) fun T251 h251 X251 e251 W251 f252 => ?_
  have f253 := f246.other W251 hne
  have z254 := Nat.le_trans z248 (Keep.of_wr W251).1
  have K255 := K249.wr W251 (Or.inl (List.mem_of_getElem? (i := 1) rfl))
  have N256 := Fr.snoc X251 N250 gw
  refine own_iconst X251 hx 89 rfl (hb hby own_d1_88) (1 : Int32) rfl ?_
  refine own_ret X251 (some (.int (1 : Int32))) (fun h => by rw [Bd.returns] at h; cases h) Bd.notSynchronized (by decide) (by decide) ?_ (fun fs hr => retN X251 hx (t := .boolean) Bd.returns (by simp) (hb hby own_d1_89) hr)
  show Q_rm_keep_3_0_0 Z g d u w k3 k4 x0 x1 x2 x3 x4 x5 y0 y1 y2 y3 y4 y5 h0 n0 _ T251.heap _
  rw [e251]
  exact ⟨rfl, N256, K255, f253, f252⟩
theorem own_ef_rm_keep_3_0_1 (m : MethodId) (g : Int32) (d : UInt64) (u : Addr) (w : Addr) : entryFrame m #[(.int g), (.double d), (.int (0 : Int32)), (.int (3 : Int32)), (.ref u), (.ref w)] 9 = mkF m 0 #[.val (.int g), .val (.double d), .second, .val (.int (0 : Int32)), .val (.int (3 : Int32)), .val (.ref u), .val (.ref w), .unset, .unset] [] := by first | (simp [entryFrame, mkF, argsToLocals, Value.category]; done) | rfl
def Q_rm_keep_3_0_1 (Z : State) (g : Int32) (d : UInt64) (u : Addr) (w : Addr) (k3 : ClassId) (k4 : ClassId) (x0 : UInt64) (x1 : UInt64) (x2 : UInt64) (x3 : UInt64) (x4 : UInt64) (x5 : UInt64) (y0 : Int32) (y1 : Int32) (y2 : Int32) (y3 : Int32) (y4 : Int32) (y5 : Int32) (h0 : Heap) (n0 : Nat) (v : Option Value) (h : Heap) (L : List Loc) : Prop := v = some (.int (1 : Int32)) ∧ Fr n0 L ∧ Keep h0 h [u, w] ∧ Arv Z h u k3 .double (6 : Int32) [(.double x0), (.double d), (.double x1), (.double x3), (.double x4), (.double x5)] (.double (0 : UInt64)) ∧ Arv Z h w k4 .int (6 : Int32) [(.int y0), (.int g), (.int y1), (.int y3), (.int y4), (.int y5)] (.int (0 : Int32))
set_option maxRecDepth 65536 in
set_option maxHeartbeats 40000000 in
theorem rm_keep_3_0_1 (l : Launch) (Z : State) (a0 : Array Value) (hw : ∀ d ∈ tables_1, d.before a0 Z = true) (ws : List Jvm.Cond) (g : Int32) (d : UInt64) (u : Addr) (w : Addr) (k3 : ClassId) (k4 : ClassId) (x0 : UInt64) (x1 : UInt64) (x2 : UInt64) (x3 : UInt64) (x4 : UInt64) (x5 : UInt64) (y0 : Int32) (y1 : Int32) (y2 : Int32) (y3 : Int32) (y4 : Int32) (y5 : Int32) (h0 : Heap) (n0 : Nat) (Z0 : n0 ≤ h0.size) (V1 : Arv Z h0 u k3 .double (6 : Int32) [(.double x0), (.double x1), (.double x2), (.double x3), (.double x4), (.double x5)] (.double (0 : UInt64))) (V2 : Arv Z h0 w k4 .int (6 : Int32) [(.int y0), (.int y1), (.int y2), (.int y3), (.int y4), (.int y5)] (.int (0 : Int32))) (hne : u ≠ w) (gu : n0 ≤ u) (gw : n0 ≤ w) (hl : cmpValue (FP.dcmp d x2) .g < 0) (hs2 : 0 < cmpValue (FP.dcmp x1 d) .l) (hs1 : ¬ 0 < cmpValue (FP.dcmp x0 d) .l) :
    MetFree l (⟨"com/example/outpost/outpost/model/Distances", "keepNearer", "(IDII[D[I)Z"⟩ : MethodName) (head1 (Jvm.Cond.code (⟨"com/example/outpost/outpost/model/Distances", "keepNearer", "(IDII[D[I)Z"⟩ : MethodName) prog_60_method_9_code 9 (some .boolean) :: ws) ({ frames := 0, cells := 0, slots := 0, locals := 0 } : Room)) (fun aa U => aa = #[(.int g), (.double d), (.int (0 : Int32)), (.int (3 : Int32)), (.ref u), (.ref w)] ∧ Z.Warmed39 U.vm ∧ U.heap = h0) (fun _ _ _ _ _ => True) (fun _ U ou U' => ∃ v L, ou = .returned v ∧ Q_rm_keep_3_0_1 Z g d u w k3 k4 x0 x1 x2 x3 x4 x5 y0 y1 y2 y3 y4 y5 h0 n0 v U'.heap L ∧ FrameEnd U ou U' L ({ frames := 0, cells := 0, slots := 0, locals := 0 } : Room).cells ({ frames := 0, cells := 0, slots := 0, locals := 0 } : Room).slots) := by
  refine MetFree.of_bodySF (plainFor_of_name own_pn1) hisR ?_
  intro p e s m args below meth c s₁ Bd hml0 hP hK
  obtain ⟨rfl, hZ, hh⟩ := hP
  have hx := Bd.exec
  have hby := Bd.bytes
  have hml : c.maxLocals = 9 := hml0
  have hown : s.vm.findClass "com/example/outpost/outpost/model/Distances" = some m.cls := findClass_of_methodNamed Bd.named
  have hnm := (name_of_methodNamed Bd.named Bd.method).1
  have X0 : Stand p l e ({ frames := 0, cells := 0, slots := 0, locals := 0 } : Room) s m #[(.int g), (.double d), (.int (0 : Int32)), (.int (3 : Int32)), (.ref u), (.ref w)] below meth c s₁ [] 0 0 := Stand.of_body Bd
  have e0 : s₁.heap = h0 := by rw [← hh, Bd.state]; rfl
  have N0 := Fr.nil n0
  have K0 := Keep.refl h0 [u, w]
  show own_Go p e below (fun o u L => FrameEnd s o u L ({ frames := 0, cells := 0, slots := 0, locals := 0 } : Room).cells ({ frames := 0, cells := 0, slots := 0, locals := 0 } : Room).slots) (Q_rm_keep_3_0_1 Z g d u w k3 k4 x0 x1 x2 x3 x4 x5 y0 y1 y2 y3 y4 y5 h0 n0) (s₁.setTop (entryFrame m #[(.int g), (.double d), (.int (0 : Int32)), (.int (3 : Int32)), (.ref u), (.ref w)] 9))
  rw [own_ef_rm_keep_3_0_1 m g d u w]
  show own_Go _ _ _ _ _ (State.setTop _ (mkF _ 0 #[.val (.int g), .val (.double d), .second, .val (.int (0 : Int32)), .val (.int (3 : Int32)), .val (.ref u), .val (.ref w), .unset, .unset] []))
  refine own_iloadN X0 hx 1 rfl (hb hby own_d1_0) rfl ?_
  refine own_iload X0 hx 3 rfl (hb hby own_d1_1) rfl ?_
  refine own_imul X0 hx 4 rfl (hb hby own_d1_3) (0 : Int32) rfl ?_
  refine own_istore X0 hx 6 rfl (hb hby own_d1_4) #[.val (.int g), .val (.double d), .second, .val (.int (0 : Int32)), .val (.int (3 : Int32)), .val (.ref u), .val (.ref w), .val (.int (0 : Int32)), .unset] rfl ?_
  refine own_iload X0 hx 8 rfl (hb hby own_d1_6) rfl ?_
  refine own_iload X0 hx 10 rfl (hb hby own_d1_8) rfl ?_
  refine own_iadd X0 hx 11 rfl (hb hby own_d1_10) (3 : Int32) rfl ?_
  refine own_iconst X0 hx 12 rfl (hb hby own_d1_11) (1 : Int32) rfl ?_
  refine own_isub X0 hx 13 rfl (hb hby own_d1_12) (2 : Int32) rfl ?_
  refine own_istore X0 hx 15 rfl (hb hby own_d1_13) #[.val (.int g), .val (.double d), .second, .val (.int (0 : Int32)), .val (.int (3 : Int32)), .val (.ref u), .val (.ref w), .val (.int (0 : Int32)), .val (.int (2 : Int32))] rfl ?_
  refine own_dloadN X0 hx 16 rfl (hb hby own_d1_15) rfl ?_
  refine own_aload X0 hx 18 rfl (hb hby own_d1_16) rfl rfl ?_
  refine own_iload X0 hx 20 rfl (hb hby own_d1_18) rfl ?_
  refine own_ldD X0 hx hZ e0 V1 ⟨by decide, by decide⟩ x2 rfl 21 rfl (hb hby own_d1_20) ?_
  refine own_dcmp X0 hx 22 rfl (hb hby own_d1_21) _ rfl ?_
  refine own_ifYes X0 hx 27 (hb hby own_d1_22) ((if0 _ _).trans (tlt hl).1) (by decide) rfl ?_
  refine own_iload X0 hx 29 rfl (hb hby own_d1_27) rfl ?_
  refine own_iload X0 hx 31 rfl (hb hby own_d1_29) rfl ?_
  refine own_icmpNo X0 hx 34 rfl (hb hby own_d1_31) (by decide) ?_
  refine own_aload X0 hx 36 rfl (hb hby own_d1_34) rfl rfl ?_
  refine own_iload X0 hx 38 rfl (hb hby own_d1_36) rfl ?_
  refine own_iconst X0 hx 39 rfl (hb hby own_d1_38) (1 : Int32) rfl ?_
  refine own_isub X0 hx 40 rfl (hb hby own_d1_39) (1 : Int32) rfl ?_
  refine own_ldD X0 hx hZ e0 V1 ⟨by decide, by decide⟩ x1 rfl 41 rfl (hb hby own_d1_40) ?_
  refine own_dloadN X0 hx 42 rfl (hb hby own_d1_41) rfl ?_
  refine own_dcmp X0 hx 43 rfl (hb hby own_d1_42) _ rfl ?_
  refine own_ifNo X0 hx 46 rfl (hb hby own_d1_43) ((if0 _ _).trans (tlt hs2).2.2.2) ?_
  refine own_aload X0 hx 48 rfl (hb hby own_d1_46) rfl rfl ?_
  refine own_iload X0 hx 50 rfl (hb hby own_d1_48) rfl ?_
  refine own_aload X0 hx 52 rfl (hb hby own_d1_50) rfl rfl ?_
  refine own_iload X0 hx 54 rfl (hb hby own_d1_52) rfl ?_
  refine own_iconst X0 hx 55 rfl (hb hby own_d1_54) (1 : Int32) rfl ?_
  refine own_isub X0 hx 56 rfl (hb hby own_d1_55) (1 : Int32) rfl ?_
  refine own_ldD X0 hx hZ e0 V1 ⟨by decide, by decide⟩ x1 rfl 57 rfl (hb hby own_d1_56) ?_
  refine own_stD X0 hx hZ e0 V1 ⟨by decide, by decide⟩ 2 rfl (Nat.le_of_ble_eq_true rfl) [(.double x0), (.double x1), (.double x1), (.double x3), (.double x4), (.double x5)] rfl 58 rfl (hb hby own_d1_57) fun T257 h257 X257 e257 W257 f258 => ?_
  have f259 := V2.other W257 (Ne.symm hne)
  have z260 := Nat.le_trans Z0 (Keep.of_wr W257).1
  have K261 := K0.wr W257 (Or.inl (List.mem_of_getElem? (i := 0) rfl))
  have N262 := Fr.snoc X257 N0 gu
  refine own_aload X257 hx 60 rfl (hb hby own_d1_58) rfl rfl ?_
  refine own_iload X257 hx 62 rfl (hb hby own_d1_60) rfl ?_
  refine own_aload X257 hx 64 rfl (hb hby own_d1_62) rfl rfl ?_
  refine own_iload X257 hx 66 rfl (hb hby own_d1_64) rfl ?_
  refine own_iconst X257 hx 67 rfl (hb hby own_d1_66) (1 : Int32) rfl ?_
  refine own_isub X257 hx 68 rfl (hb hby own_d1_67) (1 : Int32) rfl ?_
  refine own_ldI X257 hx hZ e257 f259 ⟨by decide, by decide⟩ y1 rfl 69 rfl (hb hby own_d1_68) ?_
  refine own_stI X257 hx hZ e257 f259 ⟨by decide, by decide⟩ 2 rfl (Nat.le_of_ble_eq_true rfl) [(.int y0), (.int y1), (.int y1), (.int y3), (.int y4), (.int y5)] rfl 70 rfl (hb hby own_d1_69) fun T263 h263 X263 e263 W263 f264 => ?_
  have f265 := f258.other W263 hne
  have z266 := Nat.le_trans z260 (Keep.of_wr W263).1
  have K267 := K261.wr W263 (Or.inl (List.mem_of_getElem? (i := 1) rfl))
  have N268 := Fr.snoc X263 N262 gw
  refine own_iinc X263 hx 73 rfl (hb hby own_d1_70) rfl #[.val (.int g), .val (.double d), .second, .val (.int (0 : Int32)), .val (.int (3 : Int32)), .val (.ref u), .val (.ref w), .val (.int (0 : Int32)), .val (.int (1 : Int32))] rfl ?_
  refine own_goto X263 hx 27 (hb hby own_d1_73) (by decide) rfl ?_
  refine own_iload X263 hx 29 rfl (hb hby own_d1_27) rfl ?_
  refine own_iload X263 hx 31 rfl (hb hby own_d1_29) rfl ?_
  refine own_icmpNo X263 hx 34 rfl (hb hby own_d1_31) (by decide) ?_
  refine own_aload X263 hx 36 rfl (hb hby own_d1_34) rfl rfl ?_
  refine own_iload X263 hx 38 rfl (hb hby own_d1_36) rfl ?_
  refine own_iconst X263 hx 39 rfl (hb hby own_d1_38) (1 : Int32) rfl ?_
  refine own_isub X263 hx 40 rfl (hb hby own_d1_39) (0 : Int32) rfl ?_
  refine own_ldD X263 hx hZ e263 f265 ⟨by decide, by decide⟩ x0 rfl 41 rfl (hb hby own_d1_40) ?_
  refine own_dloadN X263 hx 42 rfl (hb hby own_d1_41) rfl ?_
  refine own_dcmp X263 hx 43 rfl (hb hby own_d1_42) _ rfl ?_
  refine own_ifYes X263 hx 76 (hb hby own_d1_43) ((if0 _ _).trans (flt hs1).2.2.2) (by decide) rfl ?_
  refine own_aload X263 hx 78 rfl (hb hby own_d1_76) rfl rfl ?_
  refine own_iload X263 hx 80 rfl (hb hby own_d1_78) rfl ?_
  refine own_dloadN X263 hx 81 rfl (hb hby own_d1_80) rfl ?_
  refine own_stD X263 hx hZ e263 f265 ⟨by decide, by decide⟩ 1 rfl (Nat.le_of_ble_eq_true rfl) [(.double x0), (.double d), (.double x1), (.double x3), (.double x4), (.double x5)] rfl 82 rfl (hb hby own_d1_81) fun T269 h269 X269 e269 W269 f270 => ?_
  have f271 := f264.other W269 (Ne.symm hne)
  have z272 := Nat.le_trans z266 (Keep.of_wr W269).1
  have K273 := K267.wr W269 (Or.inl (List.mem_of_getElem? (i := 0) rfl))
  have N274 := Fr.snoc X269 N268 gu
  refine own_aload X269 hx 84 rfl (hb hby own_d1_82) rfl rfl ?_
  refine own_iload X269 hx 86 rfl (hb hby own_d1_84) rfl ?_
  refine own_iloadN X269 hx 87 rfl (hb hby own_d1_86) rfl ?_
  refine own_stI X269 hx hZ e269 f271 ⟨by decide, by decide⟩ 1 rfl (Nat.le_of_ble_eq_true rfl) [(.int y0), (.int g), (.int y1), (.int y3), (.int y4), (.int y5)] rfl 88 rfl (hb hby own_d1_87) fun T275 h275 X275 e275 W275 f276 => ?_
  have f277 := f270.other W275 hne
  have z278 := Nat.le_trans z272 (Keep.of_wr W275).1
  have K279 := K273.wr W275 (Or.inl (List.mem_of_getElem? (i := 1) rfl))
  have N280 := Fr.snoc X275 N274 gw
  refine own_iconst X275 hx 89 rfl (hb hby own_d1_88) (1 : Int32) rfl ?_
  refine own_ret X275 (some (.int (1 : Int32))) (fun h => by rw [Bd.returns] at h; cases h) Bd.notSynchronized (by decide) (by decide) ?_ (fun fs hr => retN X275 hx (t := .boolean) Bd.returns (by simp) (hb hby own_d1_89) hr)
  show Q_rm_keep_3_0_1 Z g d u w k3 k4 x0 x1 x2 x3 x4 x5 y0 y1 y2 y3 y4 y5 h0 n0 _ T275.heap _
  rw [e275]
  exact ⟨rfl, N280, K279, f277, f276⟩
theorem own_ef_rm_keep_3_0_2 (m : MethodId) (g : Int32) (d : UInt64) (u : Addr) (w : Addr) : entryFrame m #[(.int g), (.double d), (.int (0 : Int32)), (.int (3 : Int32)), (.ref u), (.ref w)] 9 = mkF m 0 #[.val (.int g), .val (.double d), .second, .val (.int (0 : Int32)), .val (.int (3 : Int32)), .val (.ref u), .val (.ref w), .unset, .unset] [] := by first | (simp [entryFrame, mkF, argsToLocals, Value.category]; done) | rfl
def Q_rm_keep_3_0_2 (Z : State) (g : Int32) (d : UInt64) (u : Addr) (w : Addr) (k3 : ClassId) (k4 : ClassId) (x0 : UInt64) (x1 : UInt64) (x2 : UInt64) (x3 : UInt64) (x4 : UInt64) (x5 : UInt64) (y0 : Int32) (y1 : Int32) (y2 : Int32) (y3 : Int32) (y4 : Int32) (y5 : Int32) (h0 : Heap) (n0 : Nat) (v : Option Value) (h : Heap) (L : List Loc) : Prop := v = some (.int (1 : Int32)) ∧ Fr n0 L ∧ Keep h0 h [u, w] ∧ Arv Z h u k3 .double (6 : Int32) [(.double x0), (.double x1), (.double d), (.double x3), (.double x4), (.double x5)] (.double (0 : UInt64)) ∧ Arv Z h w k4 .int (6 : Int32) [(.int y0), (.int y1), (.int g), (.int y3), (.int y4), (.int y5)] (.int (0 : Int32))
set_option maxRecDepth 65536 in
set_option maxHeartbeats 40000000 in
theorem rm_keep_3_0_2 (l : Launch) (Z : State) (a0 : Array Value) (hw : ∀ d ∈ tables_1, d.before a0 Z = true) (ws : List Jvm.Cond) (g : Int32) (d : UInt64) (u : Addr) (w : Addr) (k3 : ClassId) (k4 : ClassId) (x0 : UInt64) (x1 : UInt64) (x2 : UInt64) (x3 : UInt64) (x4 : UInt64) (x5 : UInt64) (y0 : Int32) (y1 : Int32) (y2 : Int32) (y3 : Int32) (y4 : Int32) (y5 : Int32) (h0 : Heap) (n0 : Nat) (Z0 : n0 ≤ h0.size) (V1 : Arv Z h0 u k3 .double (6 : Int32) [(.double x0), (.double x1), (.double x2), (.double x3), (.double x4), (.double x5)] (.double (0 : UInt64))) (V2 : Arv Z h0 w k4 .int (6 : Int32) [(.int y0), (.int y1), (.int y2), (.int y3), (.int y4), (.int y5)] (.int (0 : Int32))) (hne : u ≠ w) (gu : n0 ≤ u) (gw : n0 ≤ w) (hl : cmpValue (FP.dcmp d x2) .g < 0) (hs2 : ¬ 0 < cmpValue (FP.dcmp x1 d) .l) :
    MetFree l (⟨"com/example/outpost/outpost/model/Distances", "keepNearer", "(IDII[D[I)Z"⟩ : MethodName) (head1 (Jvm.Cond.code (⟨"com/example/outpost/outpost/model/Distances", "keepNearer", "(IDII[D[I)Z"⟩ : MethodName) prog_60_method_9_code 9 (some .boolean) :: ws) ({ frames := 0, cells := 0, slots := 0, locals := 0 } : Room)) (fun aa U => aa = #[(.int g), (.double d), (.int (0 : Int32)), (.int (3 : Int32)), (.ref u), (.ref w)] ∧ Z.Warmed39 U.vm ∧ U.heap = h0) (fun _ _ _ _ _ => True) (fun _ U ou U' => ∃ v L, ou = .returned v ∧ Q_rm_keep_3_0_2 Z g d u w k3 k4 x0 x1 x2 x3 x4 x5 y0 y1 y2 y3 y4 y5 h0 n0 v U'.heap L ∧ FrameEnd U ou U' L ({ frames := 0, cells := 0, slots := 0, locals := 0 } : Room).cells ({ frames := 0, cells := 0, slots := 0, locals := 0 } : Room).slots) := by
  refine MetFree.of_bodySF (plainFor_of_name own_pn1) hisR ?_
  intro p e s m args below meth c s₁ Bd hml0 hP hK
  obtain ⟨rfl, hZ, hh⟩ := hP
  have hx := Bd.exec
  have hby := Bd.bytes
  have hml : c.maxLocals = 9 := hml0
  have hown : s.vm.findClass "com/example/outpost/outpost/model/Distances" = some m.cls := findClass_of_methodNamed Bd.named
  have hnm := (name_of_methodNamed Bd.named Bd.method).1
  have X0 : Stand p l e ({ frames := 0, cells := 0, slots := 0, locals := 0 } : Room) s m #[(.int g), (.double d), (.int (0 : Int32)), (.int (3 : Int32)), (.ref u), (.ref w)] below meth c s₁ [] 0 0 := Stand.of_body Bd
  have e0 : s₁.heap = h0 := by rw [← hh, Bd.state]; rfl
  have N0 := Fr.nil n0
  have K0 := Keep.refl h0 [u, w]
  show own_Go p e below (fun o u L => FrameEnd s o u L ({ frames := 0, cells := 0, slots := 0, locals := 0 } : Room).cells ({ frames := 0, cells := 0, slots := 0, locals := 0 } : Room).slots) (Q_rm_keep_3_0_2 Z g d u w k3 k4 x0 x1 x2 x3 x4 x5 y0 y1 y2 y3 y4 y5 h0 n0) (s₁.setTop (entryFrame m #[(.int g), (.double d), (.int (0 : Int32)), (.int (3 : Int32)), (.ref u), (.ref w)] 9))
  rw [own_ef_rm_keep_3_0_2 m g d u w]
  show own_Go _ _ _ _ _ (State.setTop _ (mkF _ 0 #[.val (.int g), .val (.double d), .second, .val (.int (0 : Int32)), .val (.int (3 : Int32)), .val (.ref u), .val (.ref w), .unset, .unset] []))
  refine own_iloadN X0 hx 1 rfl (hb hby own_d1_0) rfl ?_
  refine own_iload X0 hx 3 rfl (hb hby own_d1_1) rfl ?_
  refine own_imul X0 hx 4 rfl (hb hby own_d1_3) (0 : Int32) rfl ?_
  refine own_istore X0 hx 6 rfl (hb hby own_d1_4) #[.val (.int g), .val (.double d), .second, .val (.int (0 : Int32)), .val (.int (3 : Int32)), .val (.ref u), .val (.ref w), .val (.int (0 : Int32)), .unset] rfl ?_
  refine own_iload X0 hx 8 rfl (hb hby own_d1_6) rfl ?_
  refine own_iload X0 hx 10 rfl (hb hby own_d1_8) rfl ?_
  refine own_iadd X0 hx 11 rfl (hb hby own_d1_10) (3 : Int32) rfl ?_
  refine own_iconst X0 hx 12 rfl (hb hby own_d1_11) (1 : Int32) rfl ?_
  refine own_isub X0 hx 13 rfl (hb hby own_d1_12) (2 : Int32) rfl ?_
  refine own_istore X0 hx 15 rfl (hb hby own_d1_13) #[.val (.int g), .val (.double d), .second, .val (.int (0 : Int32)), .val (.int (3 : Int32)), .val (.ref u), .val (.ref w), .val (.int (0 : Int32)), .val (.int (2 : Int32))] rfl ?_
  refine own_dloadN X0 hx 16 rfl (hb hby own_d1_15) rfl ?_
  refine own_aload X0 hx 18 rfl (hb hby own_d1_16) rfl rfl ?_
  refine own_iload X0 hx 20 rfl (hb hby own_d1_18) rfl ?_
  refine own_ldD X0 hx hZ e0 V1 ⟨by decide, by decide⟩ x2 rfl 21 rfl (hb hby own_d1_20) ?_
  refine own_dcmp X0 hx 22 rfl (hb hby own_d1_21) _ rfl ?_
  refine own_ifYes X0 hx 27 (hb hby own_d1_22) ((if0 _ _).trans (tlt hl).1) (by decide) rfl ?_
  refine own_iload X0 hx 29 rfl (hb hby own_d1_27) rfl ?_
  refine own_iload X0 hx 31 rfl (hb hby own_d1_29) rfl ?_
  refine own_icmpNo X0 hx 34 rfl (hb hby own_d1_31) (by decide) ?_
  refine own_aload X0 hx 36 rfl (hb hby own_d1_34) rfl rfl ?_
  refine own_iload X0 hx 38 rfl (hb hby own_d1_36) rfl ?_
  refine own_iconst X0 hx 39 rfl (hb hby own_d1_38) (1 : Int32) rfl ?_
  refine own_isub X0 hx 40 rfl (hb hby own_d1_39) (1 : Int32) rfl ?_
  refine own_ldD X0 hx hZ e0 V1 ⟨by decide, by decide⟩ x1 rfl 41 rfl (hb hby own_d1_40) ?_
  refine own_dloadN X0 hx 42 rfl (hb hby own_d1_41) rfl ?_
  refine own_dcmp X0 hx 43 rfl (hb hby own_d1_42) _ rfl ?_
  refine own_ifYes X0 hx 76 (hb hby own_d1_43) ((if0 _ _).trans (flt hs2).2.2.2) (by decide) rfl ?_
  refine own_aload X0 hx 78 rfl (hb hby own_d1_76) rfl rfl ?_
  refine own_iload X0 hx 80 rfl (hb hby own_d1_78) rfl ?_
  refine own_dloadN X0 hx 81 rfl (hb hby own_d1_80) rfl ?_
  refine own_stD X0 hx hZ e0 V1 ⟨by decide, by decide⟩ 2 rfl (Nat.le_of_ble_eq_true rfl) [(.double x0), (.double x1), (.double d), (.double x3), (.double x4), (.double x5)] rfl 82 rfl (hb hby own_d1_81) fun T281 h281 X281 e281 W281 f282 => ?_
  have f283 := V2.other W281 (Ne.symm hne)
  have z284 := Nat.le_trans Z0 (Keep.of_wr W281).1
  have K285 := K0.wr W281 (Or.inl (List.mem_of_getElem? (i := 0) rfl))
  have N286 := Fr.snoc X281 N0 gu
  refine own_aload X281 hx 84 rfl (hb hby own_d1_82) rfl rfl ?_
  refine own_iload X281 hx 86 rfl (hb hby own_d1_84) rfl ?_
  refine own_iloadN X281 hx 87 rfl (hb hby own_d1_86) rfl ?_
  refine own_stI X281 hx hZ e281 f283 ⟨by decide, by decide⟩ 2 rfl (Nat.le_of_ble_eq_true rfl) [(.int y0), (.int y1), (.int g), (.int y3), (.int y4), (.int y5)] rfl 88 rfl (hb hby own_d1_87) fun T287 h287 X287 e287 W287 f288 => ?_
  have f289 := f282.other W287 hne
  have z290 := Nat.le_trans z284 (Keep.of_wr W287).1
  have K291 := K285.wr W287 (Or.inl (List.mem_of_getElem? (i := 1) rfl))
  have N292 := Fr.snoc X287 N286 gw
  refine own_iconst X287 hx 89 rfl (hb hby own_d1_88) (1 : Int32) rfl ?_
  refine own_ret X287 (some (.int (1 : Int32))) (fun h => by rw [Bd.returns] at h; cases h) Bd.notSynchronized (by decide) (by decide) ?_ (fun fs hr => retN X287 hx (t := .boolean) Bd.returns (by simp) (hb hby own_d1_89) hr)
  show Q_rm_keep_3_0_2 Z g d u w k3 k4 x0 x1 x2 x3 x4 x5 y0 y1 y2 y3 y4 y5 h0 n0 _ T287.heap _
  rw [e287]
  exact ⟨rfl, N292, K291, f289, f288⟩
theorem own_ef_rm_keep_3_1_n (m : MethodId) (g : Int32) (d : UInt64) (u : Addr) (w : Addr) : entryFrame m #[(.int g), (.double d), (.int (1 : Int32)), (.int (3 : Int32)), (.ref u), (.ref w)] 9 = mkF m 0 #[.val (.int g), .val (.double d), .second, .val (.int (1 : Int32)), .val (.int (3 : Int32)), .val (.ref u), .val (.ref w), .unset, .unset] [] := by first | (simp [entryFrame, mkF, argsToLocals, Value.category]; done) | rfl
def Q_rm_keep_3_1_n (Z : State) (g : Int32) (d : UInt64) (u : Addr) (w : Addr) (k3 : ClassId) (k4 : ClassId) (x0 : UInt64) (x1 : UInt64) (x2 : UInt64) (x3 : UInt64) (x4 : UInt64) (x5 : UInt64) (y0 : Int32) (y1 : Int32) (y2 : Int32) (y3 : Int32) (y4 : Int32) (y5 : Int32) (h0 : Heap) (n0 : Nat) (v : Option Value) (h : Heap) (L : List Loc) : Prop := v = some (.int (0 : Int32)) ∧ Fr n0 L ∧ Keep h0 h [u, w] ∧ Arv Z h u k3 .double (6 : Int32) [(.double x0), (.double x1), (.double x2), (.double x3), (.double x4), (.double x5)] (.double (0 : UInt64)) ∧ Arv Z h w k4 .int (6 : Int32) [(.int y0), (.int y1), (.int y2), (.int y3), (.int y4), (.int y5)] (.int (0 : Int32))
set_option maxRecDepth 65536 in
set_option maxHeartbeats 40000000 in
theorem rm_keep_3_1_n (l : Launch) (Z : State) (a0 : Array Value) (hw : ∀ d ∈ tables_1, d.before a0 Z = true) (ws : List Jvm.Cond) (g : Int32) (d : UInt64) (u : Addr) (w : Addr) (k3 : ClassId) (k4 : ClassId) (x0 : UInt64) (x1 : UInt64) (x2 : UInt64) (x3 : UInt64) (x4 : UInt64) (x5 : UInt64) (y0 : Int32) (y1 : Int32) (y2 : Int32) (y3 : Int32) (y4 : Int32) (y5 : Int32) (h0 : Heap) (n0 : Nat) (Z0 : n0 ≤ h0.size) (V1 : Arv Z h0 u k3 .double (6 : Int32) [(.double x0), (.double x1), (.double x2), (.double x3), (.double x4), (.double x5)] (.double (0 : UInt64))) (V2 : Arv Z h0 w k4 .int (6 : Int32) [(.int y0), (.int y1), (.int y2), (.int y3), (.int y4), (.int y5)] (.int (0 : Int32))) (hne : u ≠ w) (gu : n0 ≤ u) (gw : n0 ≤ w) (hl : ¬ cmpValue (FP.dcmp d x5) .g < 0) :
    MetFree l (⟨"com/example/outpost/outpost/model/Distances", "keepNearer", "(IDII[D[I)Z"⟩ : MethodName) (head1 (Jvm.Cond.code (⟨"com/example/outpost/outpost/model/Distances", "keepNearer", "(IDII[D[I)Z"⟩ : MethodName) prog_60_method_9_code 9 (some .boolean) :: ws) ({ frames := 0, cells := 0, slots := 0, locals := 0 } : Room)) (fun aa U => aa = #[(.int g), (.double d), (.int (1 : Int32)), (.int (3 : Int32)), (.ref u), (.ref w)] ∧ Z.Warmed39 U.vm ∧ U.heap = h0) (fun _ _ _ _ _ => True) (fun _ U ou U' => ∃ v L, ou = .returned v ∧ Q_rm_keep_3_1_n Z g d u w k3 k4 x0 x1 x2 x3 x4 x5 y0 y1 y2 y3 y4 y5 h0 n0 v U'.heap L ∧ FrameEnd U ou U' L ({ frames := 0, cells := 0, slots := 0, locals := 0 } : Room).cells ({ frames := 0, cells := 0, slots := 0, locals := 0 } : Room).slots) := by
  refine MetFree.of_bodySF (plainFor_of_name own_pn1) hisR ?_
  intro p e s m args below meth c s₁ Bd hml0 hP hK
  obtain ⟨rfl, hZ, hh⟩ := hP
  have hx := Bd.exec
  have hby := Bd.bytes
  have hml : c.maxLocals = 9 := hml0
  have hown : s.vm.findClass "com/example/outpost/outpost/model/Distances" = some m.cls := findClass_of_methodNamed Bd.named
  have hnm := (name_of_methodNamed Bd.named Bd.method).1
  have X0 : Stand p l e ({ frames := 0, cells := 0, slots := 0, locals := 0 } : Room) s m #[(.int g), (.double d), (.int (1 : Int32)), (.int (3 : Int32)), (.ref u), (.ref w)] below meth c s₁ [] 0 0 := Stand.of_body Bd
  have e0 : s₁.heap = h0 := by rw [← hh, Bd.state]; rfl
  have N0 := Fr.nil n0
  have K0 := Keep.refl h0 [u, w]
  show own_Go p e below (fun o u L => FrameEnd s o u L ({ frames := 0, cells := 0, slots := 0, locals := 0 } : Room).cells ({ frames := 0, cells := 0, slots := 0, locals := 0 } : Room).slots) (Q_rm_keep_3_1_n Z g d u w k3 k4 x0 x1 x2 x3 x4 x5 y0 y1 y2 y3 y4 y5 h0 n0) (s₁.setTop (entryFrame m #[(.int g), (.double d), (.int (1 : Int32)), (.int (3 : Int32)), (.ref u), (.ref w)] 9))
  rw [own_ef_rm_keep_3_1_n m g d u w]
  show own_Go _ _ _ _ _ (State.setTop _ (mkF _ 0 #[.val (.int g), .val (.double d), .second, .val (.int (1 : Int32)), .val (.int (3 : Int32)), .val (.ref u), .val (.ref w), .unset, .unset] []))
  refine own_iloadN X0 hx 1 rfl (hb hby own_d1_0) rfl ?_
  refine own_iload X0 hx 3 rfl (hb hby own_d1_1) rfl ?_
  refine own_imul X0 hx 4 rfl (hb hby own_d1_3) (3 : Int32) rfl ?_
  refine own_istore X0 hx 6 rfl (hb hby own_d1_4) #[.val (.int g), .val (.double d), .second, .val (.int (1 : Int32)), .val (.int (3 : Int32)), .val (.ref u), .val (.ref w), .val (.int (3 : Int32)), .unset] rfl ?_
  refine own_iload X0 hx 8 rfl (hb hby own_d1_6) rfl ?_
  refine own_iload X0 hx 10 rfl (hb hby own_d1_8) rfl ?_
  refine own_iadd X0 hx 11 rfl (hb hby own_d1_10) (6 : Int32) rfl ?_
  refine own_iconst X0 hx 12 rfl (hb hby own_d1_11) (1 : Int32) rfl ?_
  refine own_isub X0 hx 13 rfl (hb hby own_d1_12) (5 : Int32) rfl ?_
  refine own_istore X0 hx 15 rfl (hb hby own_d1_13) #[.val (.int g), .val (.double d), .second, .val (.int (1 : Int32)), .val (.int (3 : Int32)), .val (.ref u), .val (.ref w), .val (.int (3 : Int32)), .val (.int (5 : Int32))] rfl ?_
  refine own_dloadN X0 hx 16 rfl (hb hby own_d1_15) rfl ?_
  refine own_aload X0 hx 18 rfl (hb hby own_d1_16) rfl rfl ?_
  refine own_iload X0 hx 20 rfl (hb hby own_d1_18) rfl ?_
  refine own_ldD X0 hx hZ e0 V1 ⟨by decide, by decide⟩ x5 rfl 21 rfl (hb hby own_d1_20) ?_
  refine own_dcmp X0 hx 22 rfl (hb hby own_d1_21) _ rfl ?_
  refine own_ifNo X0 hx 25 rfl (hb hby own_d1_22) ((if0 _ _).trans (flt hl).1) ?_
  refine own_iconst X0 hx 26 rfl (hb hby own_d1_25) (0 : Int32) rfl ?_
  refine own_ret X0 (some (.int (0 : Int32))) (fun h => by rw [Bd.returns] at h; cases h) Bd.notSynchronized (by decide) (by decide) ?_ (fun fs hr => retN X0 hx (t := .boolean) Bd.returns (by simp) (hb hby own_d1_26) hr)
  show Q_rm_keep_3_1_n Z g d u w k3 k4 x0 x1 x2 x3 x4 x5 y0 y1 y2 y3 y4 y5 h0 n0 _ s₁.heap _
  rw [e0]
  exact ⟨rfl, N0, K0, V1, V2⟩
theorem own_ef_rm_keep_3_1_0 (m : MethodId) (g : Int32) (d : UInt64) (u : Addr) (w : Addr) : entryFrame m #[(.int g), (.double d), (.int (1 : Int32)), (.int (3 : Int32)), (.ref u), (.ref w)] 9 = mkF m 0 #[.val (.int g), .val (.double d), .second, .val (.int (1 : Int32)), .val (.int (3 : Int32)), .val (.ref u), .val (.ref w), .unset, .unset] [] := by first | (simp [entryFrame, mkF, argsToLocals, Value.category]; done) | rfl
def Q_rm_keep_3_1_0 (Z : State) (g : Int32) (d : UInt64) (u : Addr) (w : Addr) (k3 : ClassId) (k4 : ClassId) (x0 : UInt64) (x1 : UInt64) (x2 : UInt64) (x3 : UInt64) (x4 : UInt64) (x5 : UInt64) (y0 : Int32) (y1 : Int32) (y2 : Int32) (y3 : Int32) (y4 : Int32) (y5 : Int32) (h0 : Heap) (n0 : Nat) (v : Option Value) (h : Heap) (L : List Loc) : Prop := v = some (.int (1 : Int32)) ∧ Fr n0 L ∧ Keep h0 h [u, w] ∧ Arv Z h u k3 .double (6 : Int32) [(.double x0), (.double x1), (.double x2), (.double d), (.double x3), (.double x4)] (.double (0 : UInt64)) ∧ Arv Z h w k4 .int (6 : Int32) [(.int y0), (.int y1), (.int y2), (.int g), (.int y3), (.int y4)] (.int (0 : Int32))
set_option maxRecDepth 65536 in
set_option maxHeartbeats 40000000 in
theorem rm_keep_3_1_0 (l : Launch) (Z : State) (a0 : Array Value) (hw : ∀ d ∈ tables_1, d.before a0 Z = true) (ws : List Jvm.Cond) (g : Int32) (d : UInt64) (u : Addr) (w : Addr) (k3 : ClassId) (k4 : ClassId) (x0 : UInt64) (x1 : UInt64) (x2 : UInt64) (x3 : UInt64) (x4 : UInt64) (x5 : UInt64) (y0 : Int32) (y1 : Int32) (y2 : Int32) (y3 : Int32) (y4 : Int32) (y5 : Int32) (h0 : Heap) (n0 : Nat) (Z0 : n0 ≤ h0.size) (V1 : Arv Z h0 u k3 .double (6 : Int32) [(.double x0), (.double x1), (.double x2), (.double x3), (.double x4), (.double x5)] (.double (0 : UInt64))) (V2 : Arv Z h0 w k4 .int (6 : Int32) [(.int y0), (.int y1), (.int y2), (.int y3), (.int y4), (.int y5)] (.int (0 : Int32))) (hne : u ≠ w) (gu : n0 ≤ u) (gw : n0 ≤ w) (hl : cmpValue (FP.dcmp d x5) .g < 0) (hs2 : 0 < cmpValue (FP.dcmp x4 d) .l) (hs1 : 0 < cmpValue (FP.dcmp x3 d) .l) :
    MetFree l (⟨"com/example/outpost/outpost/model/Distances", "keepNearer", "(IDII[D[I)Z"⟩ : MethodName) (head1 (Jvm.Cond.code (⟨"com/example/outpost/outpost/model/Distances", "keepNearer", "(IDII[D[I)Z"⟩ : MethodName) prog_60_method_9_code 9 (some .boolean) :: ws) ({ frames := 0, cells := 0, slots := 0, locals := 0 } : Room)) (fun aa U => aa = #[(.int g), (.double d), (.int (1 : Int32)), (.int (3 : Int32)), (.ref u), (.ref w)] ∧ Z.Warmed39 U.vm ∧ U.heap = h0) (fun _ _ _ _ _ => True) (fun _ U ou U' => ∃ v L, ou = .returned v ∧ Q_rm_keep_3_1_0 Z g d u w k3 k4 x0 x1 x2 x3 x4 x5 y0 y1 y2 y3 y4 y5 h0 n0 v U'.heap L ∧ FrameEnd U ou U' L ({ frames := 0, cells := 0, slots := 0, locals := 0 } : Room).cells ({ frames := 0, cells := 0, slots := 0, locals := 0 } : Room).slots) := by
  refine MetFree.of_bodySF (plainFor_of_name own_pn1) hisR ?_
  intro p e s m args below meth c s₁ Bd hml0 hP hK
  obtain ⟨rfl, hZ, hh⟩ := hP
  have hx := Bd.exec
  have hby := Bd.bytes
  have hml : c.maxLocals = 9 := hml0
  have hown : s.vm.findClass "com/example/outpost/outpost/model/Distances" = some m.cls := findClass_of_methodNamed Bd.named
  have hnm := (name_of_methodNamed Bd.named Bd.method).1
  have X0 : Stand p l e ({ frames := 0, cells := 0, slots := 0, locals := 0 } : Room) s m #[(.int g), (.double d), (.int (1 : Int32)), (.int (3 : Int32)), (.ref u), (.ref w)] below meth c s₁ [] 0 0 := Stand.of_body Bd
  have e0 : s₁.heap = h0 := by rw [← hh, Bd.state]; rfl
  have N0 := Fr.nil n0
  have K0 := Keep.refl h0 [u, w]
  show own_Go p e below (fun o u L => FrameEnd s o u L ({ frames := 0, cells := 0, slots := 0, locals := 0 } : Room).cells ({ frames := 0, cells := 0, slots := 0, locals := 0 } : Room).slots) (Q_rm_keep_3_1_0 Z g d u w k3 k4 x0 x1 x2 x3 x4 x5 y0 y1 y2 y3 y4 y5 h0 n0) (s₁.setTop (entryFrame m #[(.int g), (.double d), (.int (1 : Int32)), (.int (3 : Int32)), (.ref u), (.ref w)] 9))
  rw [own_ef_rm_keep_3_1_0 m g d u w]
  show own_Go _ _ _ _ _ (State.setTop _ (mkF _ 0 #[.val (.int g), .val (.double d), .second, .val (.int (1 : Int32)), .val (.int (3 : Int32)), .val (.ref u), .val (.ref w), .unset, .unset] []))
  refine own_iloadN X0 hx 1 rfl (hb hby own_d1_0) rfl ?_
  refine own_iload X0 hx 3 rfl (hb hby own_d1_1) rfl ?_
  refine own_imul X0 hx 4 rfl (hb hby own_d1_3) (3 : Int32) rfl ?_
  refine own_istore X0 hx 6 rfl (hb hby own_d1_4) #[.val (.int g), .val (.double d), .second, .val (.int (1 : Int32)), .val (.int (3 : Int32)), .val (.ref u), .val (.ref w), .val (.int (3 : Int32)), .unset] rfl ?_
  refine own_iload X0 hx 8 rfl (hb hby own_d1_6) rfl ?_
  refine own_iload X0 hx 10 rfl (hb hby own_d1_8) rfl ?_
  refine own_iadd X0 hx 11 rfl (hb hby own_d1_10) (6 : Int32) rfl ?_
  refine own_iconst X0 hx 12 rfl (hb hby own_d1_11) (1 : Int32) rfl ?_
  refine own_isub X0 hx 13 rfl (hb hby own_d1_12) (5 : Int32) rfl ?_
  refine own_istore X0 hx 15 rfl (hb hby own_d1_13) #[.val (.int g), .val (.double d), .second, .val (.int (1 : Int32)), .val (.int (3 : Int32)), .val (.ref u), .val (.ref w), .val (.int (3 : Int32)), .val (.int (5 : Int32))] rfl ?_
  refine own_dloadN X0 hx 16 rfl (hb hby own_d1_15) rfl ?_
  refine own_aload X0 hx 18 rfl (hb hby own_d1_16) rfl rfl ?_
  refine own_iload X0 hx 20 rfl (hb hby own_d1_18) rfl ?_
  refine own_ldD X0 hx hZ e0 V1 ⟨by decide, by decide⟩ x5 rfl 21 rfl (hb hby own_d1_20) ?_
  refine own_dcmp X0 hx 22 rfl (hb hby own_d1_21) _ rfl ?_
  refine own_ifYes X0 hx 27 (hb hby own_d1_22) ((if0 _ _).trans (tlt hl).1) (by decide) rfl ?_
  refine own_iload X0 hx 29 rfl (hb hby own_d1_27) rfl ?_
  refine own_iload X0 hx 31 rfl (hb hby own_d1_29) rfl ?_
  refine own_icmpNo X0 hx 34 rfl (hb hby own_d1_31) (by decide) ?_
  refine own_aload X0 hx 36 rfl (hb hby own_d1_34) rfl rfl ?_
  refine own_iload X0 hx 38 rfl (hb hby own_d1_36) rfl ?_
  refine own_iconst X0 hx 39 rfl (hb hby own_d1_38) (1 : Int32) rfl ?_
  refine own_isub X0 hx 40 rfl (hb hby own_d1_39) (4 : Int32) rfl ?_
  refine own_ldD X0 hx hZ e0 V1 ⟨by decide, by decide⟩ x4 rfl 41 rfl (hb hby own_d1_40) ?_
  refine own_dloadN X0 hx 42 rfl (hb hby own_d1_41) rfl ?_
  refine own_dcmp X0 hx 43 rfl (hb hby own_d1_42) _ rfl ?_
  refine own_ifNo X0 hx 46 rfl (hb hby own_d1_43) ((if0 _ _).trans (tlt hs2).2.2.2) ?_
  refine own_aload X0 hx 48 rfl (hb hby own_d1_46) rfl rfl ?_
  refine own_iload X0 hx 50 rfl (hb hby own_d1_48) rfl ?_
  refine own_aload X0 hx 52 rfl (hb hby own_d1_50) rfl rfl ?_
  refine own_iload X0 hx 54 rfl (hb hby own_d1_52) rfl ?_
  refine own_iconst X0 hx 55 rfl (hb hby own_d1_54) (1 : Int32) rfl ?_
  refine own_isub X0 hx 56 rfl (hb hby own_d1_55) (4 : Int32) rfl ?_
  refine own_ldD X0 hx hZ e0 V1 ⟨by decide, by decide⟩ x4 rfl 57 rfl (hb hby own_d1_56) ?_
  refine own_stD X0 hx hZ e0 V1 ⟨by decide, by decide⟩ 5 rfl (Nat.le_of_ble_eq_true rfl) [(.double x0), (.double x1), (.double x2), (.double x3), (.double x4), (.double x4)] rfl 58 rfl (hb hby own_d1_57) fun T293 h293 X293 e293 W293 f294 => ?_
  have f295 := V2.other W293 (Ne.symm hne)
  have z296 := Nat.le_trans Z0 (Keep.of_wr W293).1
  have K297 := K0.wr W293 (Or.inl (List.mem_of_getElem? (i := 0) rfl))
  have N298 := Fr.snoc X293 N0 gu
  refine own_aload X293 hx 60 rfl (hb hby own_d1_58) rfl rfl ?_
  refine own_iload X293 hx 62 rfl (hb hby own_d1_60) rfl ?_
  refine own_aload X293 hx 64 rfl (hb hby own_d1_62) rfl rfl ?_
  refine own_iload X293 hx 66 rfl (hb hby own_d1_64) rfl ?_
  refine own_iconst X293 hx 67 rfl (hb hby own_d1_66) (1 : Int32) rfl ?_
  refine own_isub X293 hx 68 rfl (hb hby own_d1_67) (4 : Int32) rfl ?_
  refine own_ldI X293 hx hZ e293 f295 ⟨by decide, by decide⟩ y4 rfl 69 rfl (hb hby own_d1_68) ?_
  refine own_stI X293 hx hZ e293 f295 ⟨by decide, by decide⟩ 5 rfl (Nat.le_of_ble_eq_true rfl) [(.int y0), (.int y1), (.int y2), (.int y3), (.int y4), (.int y4)] rfl 70 rfl (hb hby own_d1_69) fun T299 h299 X299 e299 W299 f300 => ?_
  have f301 := f294.other W299 hne
  have z302 := Nat.le_trans z296 (Keep.of_wr W299).1
  have K303 := K297.wr W299 (Or.inl (List.mem_of_getElem? (i := 1) rfl))
  have N304 := Fr.snoc X299 N298 gw
  refine own_iinc X299 hx 73 rfl (hb hby own_d1_70) rfl #[.val (.int g), .val (.double d), .second, .val (.int (1 : Int32)), .val (.int (3 : Int32)), .val (.ref u), .val (.ref w), .val (.int (3 : Int32)), .val (.int (4 : Int32))] rfl ?_
  refine own_goto X299 hx 27 (hb hby own_d1_73) (by decide) rfl ?_
  refine own_iload X299 hx 29 rfl (hb hby own_d1_27) rfl ?_
  refine own_iload X299 hx 31 rfl (hb hby own_d1_29) rfl ?_
  refine own_icmpNo X299 hx 34 rfl (hb hby own_d1_31) (by decide) ?_
  refine own_aload X299 hx 36 rfl (hb hby own_d1_34) rfl rfl ?_
  refine own_iload X299 hx 38 rfl (hb hby own_d1_36) rfl ?_
  refine own_iconst X299 hx 39 rfl (hb hby own_d1_38) (1 : Int32) rfl ?_
  refine own_isub X299 hx 40 rfl (hb hby own_d1_39) (3 : Int32) rfl ?_
  refine own_ldD X299 hx hZ e299 f301 ⟨by decide, by decide⟩ x3 rfl 41 rfl (hb hby own_d1_40) ?_
  refine own_dloadN X299 hx 42 rfl (hb hby own_d1_41) rfl ?_
  refine own_dcmp X299 hx 43 rfl (hb hby own_d1_42) _ rfl ?_
  refine own_ifNo X299 hx 46 rfl (hb hby own_d1_43) ((if0 _ _).trans (tlt hs1).2.2.2) ?_
  refine own_aload X299 hx 48 rfl (hb hby own_d1_46) rfl rfl ?_
  refine own_iload X299 hx 50 rfl (hb hby own_d1_48) rfl ?_
  refine own_aload X299 hx 52 rfl (hb hby own_d1_50) rfl rfl ?_
  refine own_iload X299 hx 54 rfl (hb hby own_d1_52) rfl ?_
  refine own_iconst X299 hx 55 rfl (hb hby own_d1_54) (1 : Int32) rfl ?_
  refine own_isub X299 hx 56 rfl (hb hby own_d1_55) (3 : Int32) rfl ?_
  refine own_ldD X299 hx hZ e299 f301 ⟨by decide, by decide⟩ x3 rfl 57 rfl (hb hby own_d1_56) ?_
  refine own_stD X299 hx hZ e299 f301 ⟨by decide, by decide⟩ 4 rfl (Nat.le_of_ble_eq_true rfl) [(.double x0), (.double x1), (.double x2), (.double x3), (.double x3), (.double x4)] rfl 58 rfl (hb hby own_d1_57) fun T305 h305 X305 e305 W305 f306 => ?_
  have f307 := f300.other W305 (Ne.symm hne)
  have z308 := Nat.le_trans z302 (Keep.of_wr W305).1
  have K309 := K303.wr W305 (Or.inl (List.mem_of_getElem? (i := 0) rfl))
  have N310 := Fr.snoc X305 N304 gu
  refine own_aload X305 hx 60 rfl (hb hby own_d1_58) rfl rfl ?_
  refine own_iload X305 hx 62 rfl (hb hby own_d1_60) rfl ?_
  refine own_aload X305 hx 64 rfl (hb hby own_d1_62) rfl rfl ?_
  refine own_iload X305 hx 66 rfl (hb hby own_d1_64) rfl ?_
  refine own_iconst X305 hx 67 rfl (hb hby own_d1_66) (1 : Int32) rfl ?_
  refine own_isub X305 hx 68 rfl (hb hby own_d1_67) (3 : Int32) rfl ?_
  refine own_ldI X305 hx hZ e305 f307 ⟨by decide, by decide⟩ y3 rfl 69 rfl (hb hby own_d1_68) ?_
  refine own_stI X305 hx hZ e305 f307 ⟨by decide, by decide⟩ 4 rfl (Nat.le_of_ble_eq_true rfl) [(.int y0), (.int y1), (.int y2), (.int y3), (.int y3), (.int y4)] rfl 70 rfl (hb hby own_d1_69) fun T311 h311 X311 e311 W311 f312 => ?_
  have f313 := f306.other W311 hne
  have z314 := Nat.le_trans z308 (Keep.of_wr W311).1
  have K315 := K309.wr W311 (Or.inl (List.mem_of_getElem? (i := 1) rfl))
  have N316 := Fr.snoc X311 N310 gw
  refine own_iinc X311 hx 73 rfl (hb hby own_d1_70) rfl #[.val (.int g), .val (.double d), .second, .val (.int (1 : Int32)), .val (.int (3 : Int32)), .val (.ref u), .val (.ref w), .val (.int (3 : Int32)), .val (.int (3 : Int32))] rfl ?_
  refine own_goto X311 hx 27 (hb hby own_d1_73) (by decide) rfl ?_
  refine own_iload X311 hx 29 rfl (hb hby own_d1_27) rfl ?_
  refine own_iload X311 hx 31 rfl (hb hby own_d1_29) rfl ?_
  refine own_icmpYes X311 hx 76 (hb hby own_d1_31) (by decide) (by decide) rfl ?_
  refine own_aload X311 hx 78 rfl (hb hby own_d1_76) rfl rfl ?_
  refine own_iload X311 hx 80 rfl (hb hby own_d1_78) rfl ?_
  refine own_dloadN X311 hx 81 rfl (hb hby own_d1_80) rfl ?_
  refine own_stD X311 hx hZ e311 f313 ⟨by decide, by decide⟩ 3 rfl (Nat.le_of_ble_eq_true rfl) [(.double x0), (.double x1), (.double x2), (.double d), (.double x3), (.double x4)] rfl 82 rfl (hb hby own_d1_81) fun T317 h317 X317 e317 W317 f318 => ?_
  have f319 := f312.other W317 (Ne.symm hne)
  have z320 := Nat.le_trans z314 (Keep.of_wr W317).1
  have K321 := K315.wr W317 (Or.inl (List.mem_of_getElem? (i := 0) rfl))
  have N322 := Fr.snoc X317 N316 gu
  refine own_aload X317 hx 84 rfl (hb hby own_d1_82) rfl rfl ?_
  refine own_iload X317 hx 86 rfl (hb hby own_d1_84) rfl ?_
  refine own_iloadN X317 hx 87 rfl (hb hby own_d1_86) rfl ?_
  refine own_stI X317 hx hZ e317 f319 ⟨by decide, by decide⟩ 3 rfl (Nat.le_of_ble_eq_true rfl) [(.int y0), (.int y1), (.int y2), (.int g), (.int y3), (.int y4)] rfl 88 rfl (hb hby own_d1_87) fun T323 h323 X323 e323 W323 f324 => ?_
  have f325 := f318.other W323 hne
  have z326 := Nat.le_trans z320 (Keep.of_wr W323).1
  have K327 := K321.wr W323 (Or.inl (List.mem_of_getElem? (i := 1) rfl))
  have N328 := Fr.snoc X323 N322 gw
  refine own_iconst X323 hx 89 rfl (hb hby own_d1_88) (1 : Int32) rfl ?_
  refine own_ret X323 (some (.int (1 : Int32))) (fun h => by rw [Bd.returns] at h; cases h) Bd.notSynchronized (by decide) (by decide) ?_ (fun fs hr => retN X323 hx (t := .boolean) Bd.returns (by simp) (hb hby own_d1_89) hr)
  show Q_rm_keep_3_1_0 Z g d u w k3 k4 x0 x1 x2 x3 x4 x5 y0 y1 y2 y3 y4 y5 h0 n0 _ T323.heap _
  rw [e323]
  exact ⟨rfl, N328, K327, f325, f324⟩
theorem own_ef_rm_keep_3_1_1 (m : MethodId) (g : Int32) (d : UInt64) (u : Addr) (w : Addr) : entryFrame m #[(.int g), (.double d), (.int (1 : Int32)), (.int (3 : Int32)), (.ref u), (.ref w)] 9 = mkF m 0 #[.val (.int g), .val (.double d), .second, .val (.int (1 : Int32)), .val (.int (3 : Int32)), .val (.ref u), .val (.ref w), .unset, .unset] [] := by first | (simp [entryFrame, mkF, argsToLocals, Value.category]; done) | rfl
def Q_rm_keep_3_1_1 (Z : State) (g : Int32) (d : UInt64) (u : Addr) (w : Addr) (k3 : ClassId) (k4 : ClassId) (x0 : UInt64) (x1 : UInt64) (x2 : UInt64) (x3 : UInt64) (x4 : UInt64) (x5 : UInt64) (y0 : Int32) (y1 : Int32) (y2 : Int32) (y3 : Int32) (y4 : Int32) (y5 : Int32) (h0 : Heap) (n0 : Nat) (v : Option Value) (h : Heap) (L : List Loc) : Prop := v = some (.int (1 : Int32)) ∧ Fr n0 L ∧ Keep h0 h [u, w] ∧ Arv Z h u k3 .double (6 : Int32) [(.double x0), (.double x1), (.double x2), (.double x3), (.double d), (.double x4)] (.double (0 : UInt64)) ∧ Arv Z h w k4 .int (6 : Int32) [(.int y0), (.int y1), (.int y2), (.int y3), (.int g), (.int y4)] (.int (0 : Int32))
set_option maxRecDepth 65536 in
set_option maxHeartbeats 40000000 in
theorem rm_keep_3_1_1 (l : Launch) (Z : State) (a0 : Array Value) (hw : ∀ d ∈ tables_1, d.before a0 Z = true) (ws : List Jvm.Cond) (g : Int32) (d : UInt64) (u : Addr) (w : Addr) (k3 : ClassId) (k4 : ClassId) (x0 : UInt64) (x1 : UInt64) (x2 : UInt64) (x3 : UInt64) (x4 : UInt64) (x5 : UInt64) (y0 : Int32) (y1 : Int32) (y2 : Int32) (y3 : Int32) (y4 : Int32) (y5 : Int32) (h0 : Heap) (n0 : Nat) (Z0 : n0 ≤ h0.size) (V1 : Arv Z h0 u k3 .double (6 : Int32) [(.double x0), (.double x1), (.double x2), (.double x3), (.double x4), (.double x5)] (.double (0 : UInt64))) (V2 : Arv Z h0 w k4 .int (6 : Int32) [(.int y0), (.int y1), (.int y2), (.int y3), (.int y4), (.int y5)] (.int (0 : Int32))) (hne : u ≠ w) (gu : n0 ≤ u) (gw : n0 ≤ w) (hl : cmpValue (FP.dcmp d x5) .g < 0) (hs2 : 0 < cmpValue (FP.dcmp x4 d) .l) (hs1 : ¬ 0 < cmpValue (FP.dcmp x3 d) .l) :
    MetFree l (⟨"com/example/outpost/outpost/model/Distances", "keepNearer", "(IDII[D[I)Z"⟩ : MethodName) (head1 (Jvm.Cond.code (⟨"com/example/outpost/outpost/model/Distances", "keepNearer", "(IDII[D[I)Z"⟩ : MethodName) prog_60_method_9_code 9 (some .boolean) :: ws) ({ frames := 0, cells := 0, slots := 0, locals := 0 } : Room)) (fun aa U => aa = #[(.int g), (.double d), (.int (1 : Int32)), (.int (3 : Int32)), (.ref u), (.ref w)] ∧ Z.Warmed39 U.vm ∧ U.heap = h0) (fun _ _ _ _ _ => True) (fun _ U ou U' => ∃ v L, ou = .returned v ∧ Q_rm_keep_3_1_1 Z g d u w k3 k4 x0 x1 x2 x3 x4 x5 y0 y1 y2 y3 y4 y5 h0 n0 v U'.heap L ∧ FrameEnd U ou U' L ({ frames := 0, cells := 0, slots := 0, locals := 0 } : Room).cells ({ frames := 0, cells := 0, slots := 0, locals := 0 } : Room).slots) := by
  refine MetFree.of_bodySF (plainFor_of_name own_pn1) hisR ?_
  intro p e s m args below meth c s₁ Bd hml0 hP hK
  obtain ⟨rfl, hZ, hh⟩ := hP
  have hx := Bd.exec
  have hby := Bd.bytes
  have hml : c.maxLocals = 9 := hml0
  have hown : s.vm.findClass "com/example/outpost/outpost/model/Distances" = some m.cls := findClass_of_methodNamed Bd.named
  have hnm := (name_of_methodNamed Bd.named Bd.method).1
  have X0 : Stand p l e ({ frames := 0, cells := 0, slots := 0, locals := 0 } : Room) s m #[(.int g), (.double d), (.int (1 : Int32)), (.int (3 : Int32)), (.ref u), (.ref w)] below meth c s₁ [] 0 0 := Stand.of_body Bd
  have e0 : s₁.heap = h0 := by rw [← hh, Bd.state]; rfl
  have N0 := Fr.nil n0
  have K0 := Keep.refl h0 [u, w]
  show own_Go p e below (fun o u L => FrameEnd s o u L ({ frames := 0, cells := 0, slots := 0, locals := 0 } : Room).cells ({ frames := 0, cells := 0, slots := 0, locals := 0 } : Room).slots) (Q_rm_keep_3_1_1 Z g d u w k3 k4 x0 x1 x2 x3 x4 x5 y0 y1 y2 y3 y4 y5 h0 n0) (s₁.setTop (entryFrame m #[(.int g), (.double d), (.int (1 : Int32)), (.int (3 : Int32)), (.ref u), (.ref w)] 9))
  rw [own_ef_rm_keep_3_1_1 m g d u w]
  show own_Go _ _ _ _ _ (State.setTop _ (mkF _ 0 #[.val (.int g), .val (.double d), .second, .val (.int (1 : Int32)), .val (.int (3 : Int32)), .val (.ref u), .val (.ref w), .unset, .unset] []))
  refine own_iloadN X0 hx 1 rfl (hb hby own_d1_0) rfl ?_
  refine own_iload X0 hx 3 rfl (hb hby own_d1_1) rfl ?_
  refine own_imul X0 hx 4 rfl (hb hby own_d1_3) (3 : Int32) rfl ?_
  refine own_istore X0 hx 6 rfl (hb hby own_d1_4) #[.val (.int g), .val (.double d), .second, .val (.int (1 : Int32)), .val (.int (3 : Int32)), .val (.ref u), .val (.ref w), .val (.int (3 : Int32)), .unset] rfl ?_
  refine own_iload X0 hx 8 rfl (hb hby own_d1_6) rfl ?_
  refine own_iload X0 hx 10 rfl (hb hby own_d1_8) rfl ?_
  refine own_iadd X0 hx 11 rfl (hb hby own_d1_10) (6 : Int32) rfl ?_
  refine own_iconst X0 hx 12 rfl (hb hby own_d1_11) (1 : Int32) rfl ?_
  refine own_isub X0 hx 13 rfl (hb hby own_d1_12) (5 : Int32) rfl ?_
  refine own_istore X0 hx 15 rfl (hb hby own_d1_13) #[.val (.int g), .val (.double d), .second, .val (.int (1 : Int32)), .val (.int (3 : Int32)), .val (.ref u), .val (.ref w), .val (.int (3 : Int32)), .val (.int (5 : Int32))] rfl ?_
  refine own_dloadN X0 hx 16 rfl (hb hby own_d1_15) rfl ?_
  refine own_aload X0 hx 18 rfl (hb hby own_d1_16) rfl rfl ?_
  refine own_iload X0 hx 20 rfl (hb hby own_d1_18) rfl ?_
  refine own_ldD X0 hx hZ e0 V1 ⟨by decide, by decide⟩ x5 rfl 21 rfl (hb hby own_d1_20) ?_
  refine own_dcmp X0 hx 22 rfl (hb hby own_d1_21) _ rfl ?_
  refine own_ifYes X0 hx 27 (hb hby own_d1_22) ((if0 _ _).trans (tlt hl).1) (by decide) rfl ?_
  refine own_iload X0 hx 29 rfl (hb hby own_d1_27) rfl ?_
  refine own_iload X0 hx 31 rfl (hb hby own_d1_29) rfl ?_
  refine own_icmpNo X0 hx 34 rfl (hb hby own_d1_31) (by decide) ?_
  refine own_aload X0 hx 36 rfl (hb hby own_d1_34) rfl rfl ?_
  refine own_iload X0 hx 38 rfl (hb hby own_d1_36) rfl ?_
  refine own_iconst X0 hx 39 rfl (hb hby own_d1_38) (1 : Int32) rfl ?_
  refine own_isub X0 hx 40 rfl (hb hby own_d1_39) (4 : Int32) rfl ?_
  refine own_ldD X0 hx hZ e0 V1 ⟨by decide, by decide⟩ x4 rfl 41 rfl (hb hby own_d1_40) ?_
  refine own_dloadN X0 hx 42 rfl (hb hby own_d1_41) rfl ?_
  refine own_dcmp X0 hx 43 rfl (hb hby own_d1_42) _ rfl ?_
  refine own_ifNo X0 hx 46 rfl (hb hby own_d1_43) ((if0 _ _).trans (tlt hs2).2.2.2) ?_
  refine own_aload X0 hx 48 rfl (hb hby own_d1_46) rfl rfl ?_
  refine own_iload X0 hx 50 rfl (hb hby own_d1_48) rfl ?_
  refine own_aload X0 hx 52 rfl (hb hby own_d1_50) rfl rfl ?_
  refine own_iload X0 hx 54 rfl (hb hby own_d1_52) rfl ?_
  refine own_iconst X0 hx 55 rfl (hb hby own_d1_54) (1 : Int32) rfl ?_
  refine own_isub X0 hx 56 rfl (hb hby own_d1_55) (4 : Int32) rfl ?_
  refine own_ldD X0 hx hZ e0 V1 ⟨by decide, by decide⟩ x4 rfl 57 rfl (hb hby own_d1_56) ?_
  refine own_stD X0 hx hZ e0 V1 ⟨by decide, by decide⟩ 5 rfl (Nat.le_of_ble_eq_true rfl) [(.double x0), (.double x1), (.double x2), (.double x3), (.double x4), (.double x4)] rfl 58 rfl (hb hby own_d1_57) fun T329 h329 X329 e329 W329 f330 => ?_
  have f331 := V2.other W329 (Ne.symm hne)
  have z332 := Nat.le_trans Z0 (Keep.of_wr W329).1
  have K333 := K0.wr W329 (Or.inl (List.mem_of_getElem? (i := 0) rfl))
  have N334 := Fr.snoc X329 N0 gu
  refine own_aload X329 hx 60 rfl (hb hby own_d1_58) rfl rfl ?_
  refine own_iload X329 hx 62 rfl (hb hby own_d1_60) rfl ?_
  refine own_aload X329 hx 64 rfl (hb hby own_d1_62) rfl rfl ?_
  refine own_iload X329 hx 66 rfl (hb hby own_d1_64) rfl ?_
  refine own_iconst X329 hx 67 rfl (hb hby own_d1_66) (1 : Int32) rfl ?_
  refine own_isub X329 hx 68 rfl (hb hby own_d1_67) (4 : Int32) rfl ?_
  refine own_ldI X329 hx hZ e329 f331 ⟨by decide, by decide⟩ y4 rfl 69 rfl (hb hby own_d1_68) ?_
  refine own_stI X329 hx hZ e329 f331 ⟨by decide, by decide⟩ 5 rfl (Nat.le_of_ble_eq_true rfl) [(.int y0), (.int y1), (.int y2), (.int y3), (.int y4), (.int y4)] rfl 70 rfl (hb hby own_d1_69) fun T335 h335 X335 e335 W335 f336 => ?_
  have f337 := f330.other W335 hne
  have z338 := Nat.le_trans z332 (Keep.of_wr W335).1
  have K339 := K333.wr W335 (Or.inl (List.mem_of_getElem? (i := 1) rfl))
  have N340 := Fr.snoc X335 N334 gw
  refine own_iinc X335 hx 73 rfl (hb hby own_d1_70) rfl #[.val (.int g), .val (.double d), .second, .val (.int (1 : Int32)), .val (.int (3 : Int32)), .val (.ref u), .val (.ref w), .val (.int (3 : Int32)), .val (.int (4 : Int32))] rfl ?_
  refine own_goto X335 hx 27 (hb hby own_d1_73) (by decide) rfl ?_
  refine own_iload X335 hx 29 rfl (hb hby own_d1_27) rfl ?_
  refine own_iload X335 hx 31 rfl (hb hby own_d1_29) rfl ?_
  refine own_icmpNo X335 hx 34 rfl (hb hby own_d1_31) (by decide) ?_
  refine own_aload X335 hx 36 rfl (hb hby own_d1_34) rfl rfl ?_
  refine own_iload X335 hx 38 rfl (hb hby own_d1_36) rfl ?_
  refine own_iconst X335 hx 39 rfl (hb hby own_d1_38) (1 : Int32) rfl ?_
  refine own_isub X335 hx 40 rfl (hb hby own_d1_39) (3 : Int32) rfl ?_
  refine own_ldD X335 hx hZ e335 f337 ⟨by decide, by decide⟩ x3 rfl 41 rfl (hb hby own_d1_40) ?_
  refine own_dloadN X335 hx 42 rfl (hb hby own_d1_41) rfl ?_
  refine own_dcmp X335 hx 43 rfl (hb hby own_d1_42) _ rfl ?_
  refine own_ifYes X335 hx 76 (hb hby own_d1_43) ((if0 _ _).trans (flt hs1).2.2.2) (by decide) rfl ?_
  refine own_aload X335 hx 78 rfl (hb hby own_d1_76) rfl rfl ?_
  refine own_iload X335 hx 80 rfl (hb hby own_d1_78) rfl ?_
  refine own_dloadN X335 hx 81 rfl (hb hby own_d1_80) rfl ?_
  refine own_stD X335 hx hZ e335 f337 ⟨by decide, by decide⟩ 4 rfl (Nat.le_of_ble_eq_true rfl) [(.double x0), (.double x1), (.double x2), (.double x3), (.double d), (.double x4)] rfl 82 rfl (hb hby own_d1_81) fun T341 h341 X341 e341 W341 f342 => ?_
  have f343 := f336.other W341 (Ne.symm hne)
  have z344 := Nat.le_trans z338 (Keep.of_wr W341).1
  have K345 := K339.wr W341 (Or.inl (List.mem_of_getElem? (i := 0) rfl))
  have N346 := Fr.snoc X341 N340 gu
  refine own_aload X341 hx 84 rfl (hb hby own_d1_82) rfl rfl ?_
  refine own_iload X341 hx 86 rfl (hb hby own_d1_84) rfl ?_
  refine own_iloadN X341 hx 87 rfl (hb hby own_d1_86) rfl ?_
  refine own_stI X341 hx hZ e341 f343 ⟨by decide, by decide⟩ 4 rfl (Nat.le_of_ble_eq_true rfl) [(.int y0), (.int y1), (.int y2), (.int y3), (.int g), (.int y4)] rfl 88 rfl (hb hby own_d1_87) fun T347 h347 X347 e347 W347 f348 => ?_
  have f349 := f342.other W347 hne
  have z350 := Nat.le_trans z344 (Keep.of_wr W347).1
  have K351 := K345.wr W347 (Or.inl (List.mem_of_getElem? (i := 1) rfl))
  have N352 := Fr.snoc X347 N346 gw
  refine own_iconst X347 hx 89 rfl (hb hby own_d1_88) (1 : Int32) rfl ?_
  refine own_ret X347 (some (.int (1 : Int32))) (fun h => by rw [Bd.returns] at h; cases h) Bd.notSynchronized (by decide) (by decide) ?_ (fun fs hr => retN X347 hx (t := .boolean) Bd.returns (by simp) (hb hby own_d1_89) hr)
  show Q_rm_keep_3_1_1 Z g d u w k3 k4 x0 x1 x2 x3 x4 x5 y0 y1 y2 y3 y4 y5 h0 n0 _ T347.heap _
  rw [e347]
  exact ⟨rfl, N352, K351, f349, f348⟩
theorem own_ef_rm_keep_3_1_2 (m : MethodId) (g : Int32) (d : UInt64) (u : Addr) (w : Addr) : entryFrame m #[(.int g), (.double d), (.int (1 : Int32)), (.int (3 : Int32)), (.ref u), (.ref w)] 9 = mkF m 0 #[.val (.int g), .val (.double d), .second, .val (.int (1 : Int32)), .val (.int (3 : Int32)), .val (.ref u), .val (.ref w), .unset, .unset] [] := by first | (simp [entryFrame, mkF, argsToLocals, Value.category]; done) | rfl
def Q_rm_keep_3_1_2 (Z : State) (g : Int32) (d : UInt64) (u : Addr) (w : Addr) (k3 : ClassId) (k4 : ClassId) (x0 : UInt64) (x1 : UInt64) (x2 : UInt64) (x3 : UInt64) (x4 : UInt64) (x5 : UInt64) (y0 : Int32) (y1 : Int32) (y2 : Int32) (y3 : Int32) (y4 : Int32) (y5 : Int32) (h0 : Heap) (n0 : Nat) (v : Option Value) (h : Heap) (L : List Loc) : Prop := v = some (.int (1 : Int32)) ∧ Fr n0 L ∧ Keep h0 h [u, w] ∧ Arv Z h u k3 .double (6 : Int32) [(.double x0), (.double x1), (.double x2), (.double x3), (.double x4), (.double d)] (.double (0 : UInt64)) ∧ Arv Z h w k4 .int (6 : Int32) [(.int y0), (.int y1), (.int y2), (.int y3), (.int y4), (.int g)] (.int (0 : Int32))
set_option maxRecDepth 65536 in
set_option maxHeartbeats 40000000 in
theorem rm_keep_3_1_2 (l : Launch) (Z : State) (a0 : Array Value) (hw : ∀ d ∈ tables_1, d.before a0 Z = true) (ws : List Jvm.Cond) (g : Int32) (d : UInt64) (u : Addr) (w : Addr) (k3 : ClassId) (k4 : ClassId) (x0 : UInt64) (x1 : UInt64) (x2 : UInt64) (x3 : UInt64) (x4 : UInt64) (x5 : UInt64) (y0 : Int32) (y1 : Int32) (y2 : Int32) (y3 : Int32) (y4 : Int32) (y5 : Int32) (h0 : Heap) (n0 : Nat) (Z0 : n0 ≤ h0.size) (V1 : Arv Z h0 u k3 .double (6 : Int32) [(.double x0), (.double x1), (.double x2), (.double x3), (.double x4), (.double x5)] (.double (0 : UInt64))) (V2 : Arv Z h0 w k4 .int (6 : Int32) [(.int y0), (.int y1), (.int y2), (.int y3), (.int y4), (.int y5)] (.int (0 : Int32))) (hne : u ≠ w) (gu : n0 ≤ u) (gw : n0 ≤ w) (hl : cmpValue (FP.dcmp d x5) .g < 0) (hs2 : ¬ 0 < cmpValue (FP.dcmp x4 d) .l) :
    MetFree l (⟨"com/example/outpost/outpost/model/Distances", "keepNearer", "(IDII[D[I)Z"⟩ : MethodName) (head1 (Jvm.Cond.code (⟨"com/example/outpost/outpost/model/Distances", "keepNearer", "(IDII[D[I)Z"⟩ : MethodName) prog_60_method_9_code 9 (some .boolean) :: ws) ({ frames := 0, cells := 0, slots := 0, locals := 0 } : Room)) (fun aa U => aa = #[(.int g), (.double d), (.int (1 : Int32)), (.int (3 : Int32)), (.ref u), (.ref w)] ∧ Z.Warmed39 U.vm ∧ U.heap = h0) (fun _ _ _ _ _ => True) (fun _ U ou U' => ∃ v L, ou = .returned v ∧ Q_rm_keep_3_1_2 Z g d u w k3 k4 x0 x1 x2 x3 x4 x5 y0 y1 y2 y3 y4 y5 h0 n0 v U'.heap L ∧ FrameEnd U ou U' L ({ frames := 0, cells := 0, slots := 0, locals := 0 } : Room).cells ({ frames := 0, cells := 0, slots := 0, locals := 0 } : Room).slots) := by
  refine MetFree.of_bodySF (plainFor_of_name own_pn1) hisR ?_
  intro p e s m args below meth c s₁ Bd hml0 hP hK
  obtain ⟨rfl, hZ, hh⟩ := hP
  have hx := Bd.exec
  have hby := Bd.bytes
  have hml : c.maxLocals = 9 := hml0
  have hown : s.vm.findClass "com/example/outpost/outpost/model/Distances" = some m.cls := findClass_of_methodNamed Bd.named
  have hnm := (name_of_methodNamed Bd.named Bd.method).1
  have X0 : Stand p l e ({ frames := 0, cells := 0, slots := 0, locals := 0 } : Room) s m #[(.int g), (.double d), (.int (1 : Int32)), (.int (3 : Int32)), (.ref u), (.ref w)] below meth c s₁ [] 0 0 := Stand.of_body Bd
  have e0 : s₁.heap = h0 := by rw [← hh, Bd.state]; rfl
  have N0 := Fr.nil n0
  have K0 := Keep.refl h0 [u, w]
  show own_Go p e below (fun o u L => FrameEnd s o u L ({ frames := 0, cells := 0, slots := 0, locals := 0 } : Room).cells ({ frames := 0, cells := 0, slots := 0, locals := 0 } : Room).slots) (Q_rm_keep_3_1_2 Z g d u w k3 k4 x0 x1 x2 x3 x4 x5 y0 y1 y2 y3 y4 y5 h0 n0) (s₁.setTop (entryFrame m #[(.int g), (.double d), (.int (1 : Int32)), (.int (3 : Int32)), (.ref u), (.ref w)] 9))
  rw [own_ef_rm_keep_3_1_2 m g d u w]
  show own_Go _ _ _ _ _ (State.setTop _ (mkF _ 0 #[.val (.int g), .val (.double d), .second, .val (.int (1 : Int32)), .val (.int (3 : Int32)), .val (.ref u), .val (.ref w), .unset, .unset] []))
  refine own_iloadN X0 hx 1 rfl (hb hby own_d1_0) rfl ?_
  refine own_iload X0 hx 3 rfl (hb hby own_d1_1) rfl ?_
  refine own_imul X0 hx 4 rfl (hb hby own_d1_3) (3 : Int32) rfl ?_
  refine own_istore X0 hx 6 rfl (hb hby own_d1_4) #[.val (.int g), .val (.double d), .second, .val (.int (1 : Int32)), .val (.int (3 : Int32)), .val (.ref u), .val (.ref w), .val (.int (3 : Int32)), .unset] rfl ?_
  refine own_iload X0 hx 8 rfl (hb hby own_d1_6) rfl ?_
  refine own_iload X0 hx 10 rfl (hb hby own_d1_8) rfl ?_
  refine own_iadd X0 hx 11 rfl (hb hby own_d1_10) (6 : Int32) rfl ?_
  refine own_iconst X0 hx 12 rfl (hb hby own_d1_11) (1 : Int32) rfl ?_
  refine own_isub X0 hx 13 rfl (hb hby own_d1_12) (5 : Int32) rfl ?_
  refine own_istore X0 hx 15 rfl (hb hby own_d1_13) #[.val (.int g), .val (.double d), .second, .val (.int (1 : Int32)), .val (.int (3 : Int32)), .val (.ref u), .val (.ref w), .val (.int (3 : Int32)), .val (.int (5 : Int32))] rfl ?_
  refine own_dloadN X0 hx 16 rfl (hb hby own_d1_15) rfl ?_
  refine own_aload X0 hx 18 rfl (hb hby own_d1_16) rfl rfl ?_
  refine own_iload X0 hx 20 rfl (hb hby own_d1_18) rfl ?_
  refine own_ldD X0 hx hZ e0 V1 ⟨by decide, by decide⟩ x5 rfl 21 rfl (hb hby own_d1_20) ?_
  refine own_dcmp X0 hx 22 rfl (hb hby own_d1_21) _ rfl ?_
  refine own_ifYes X0 hx 27 (hb hby own_d1_22) ((if0 _ _).trans (tlt hl).1) (by decide) rfl ?_
  refine own_iload X0 hx 29 rfl (hb hby own_d1_27) rfl ?_
  refine own_iload X0 hx 31 rfl (hb hby own_d1_29) rfl ?_
  refine own_icmpNo X0 hx 34 rfl (hb hby own_d1_31) (by decide) ?_
  refine own_aload X0 hx 36 rfl (hb hby own_d1_34) rfl rfl ?_
  refine own_iload X0 hx 38 rfl (hb hby own_d1_36) rfl ?_
  refine own_iconst X0 hx 39 rfl (hb hby own_d1_38) (1 : Int32) rfl ?_
  refine own_isub X0 hx 40 rfl (hb hby own_d1_39) (4 : Int32) rfl ?_
  refine own_ldD X0 hx hZ e0 V1 ⟨by decide, by decide⟩ x4 rfl 41 rfl (hb hby own_d1_40) ?_
  refine own_dloadN X0 hx 42 rfl (hb hby own_d1_41) rfl ?_
  refine own_dcmp X0 hx 43 rfl (hb hby own_d1_42) _ rfl ?_
  refine own_ifYes X0 hx 76 (hb hby own_d1_43) ((if0 _ _).trans (flt hs2).2.2.2) (by decide) rfl ?_
  refine own_aload X0 hx 78 rfl (hb hby own_d1_76) rfl rfl ?_
  refine own_iload X0 hx 80 rfl (hb hby own_d1_78) rfl ?_
  refine own_dloadN X0 hx 81 rfl (hb hby own_d1_80) rfl ?_
  refine own_stD X0 hx hZ e0 V1 ⟨by decide, by decide⟩ 5 rfl (Nat.le_of_ble_eq_true rfl) [(.double x0), (.double x1), (.double x2), (.double x3), (.double x4), (.double d)] rfl 82 rfl (hb hby own_d1_81) fun T353 h353 X353 e353 W353 f354 => ?_
  have f355 := V2.other W353 (Ne.symm hne)
  have z356 := Nat.le_trans Z0 (Keep.of_wr W353).1
  have K357 := K0.wr W353 (Or.inl (List.mem_of_getElem? (i := 0) rfl))
  have N358 := Fr.snoc X353 N0 gu
  refine own_aload X353 hx 84 rfl (hb hby own_d1_82) rfl rfl ?_
  refine own_iload X353 hx 86 rfl (hb hby own_d1_84) rfl ?_
  refine own_iloadN X353 hx 87 rfl (hb hby own_d1_86) rfl ?_
  refine own_stI X353 hx hZ e353 f355 ⟨by decide, by decide⟩ 5 rfl (Nat.le_of_ble_eq_true rfl) [(.int y0), (.int y1), (.int y2), (.int y3), (.int y4), (.int g)] rfl 88 rfl (hb hby own_d1_87) fun T359 h359 X359 e359 W359 f360 => ?_
  have f361 := f354.other W359 hne
  have z362 := Nat.le_trans z356 (Keep.of_wr W359).1
  have K363 := K357.wr W359 (Or.inl (List.mem_of_getElem? (i := 1) rfl))
  have N364 := Fr.snoc X359 N358 gw
  refine own_iconst X359 hx 89 rfl (hb hby own_d1_88) (1 : Int32) rfl ?_
  refine own_ret X359 (some (.int (1 : Int32))) (fun h => by rw [Bd.returns] at h; cases h) Bd.notSynchronized (by decide) (by decide) ?_ (fun fs hr => retN X359 hx (t := .boolean) Bd.returns (by simp) (hb hby own_d1_89) hr)
  show Q_rm_keep_3_1_2 Z g d u w k3 k4 x0 x1 x2 x3 x4 x5 y0 y1 y2 y3 y4 y5 h0 n0 _ T359.heap _
  rw [e359]
  exact ⟨rfl, N364, K363, f361, f360⟩
theorem own_ef_rm0 (m : MethodId) (i0 : Int32) (i1 : Int32) (i2 : Int32) : entryFrame m #[(.int i0), (.int i1), (.int i2)] maxLocals = mkF m 0 #[.val (.int i0), .val (.int i1), .val (.int i2), .unset, .unset, .unset, .unset, .unset, .unset, .unset, .unset, .unset, .unset, .unset, .unset, .unset, .unset, .unset, .unset, .unset, .unset, .unset] [] := by first | (simp [entryFrame, mkF, argsToLocals, Value.category, maxLocals]; done) | rfl
def Q_rm0 (Z : State) (i0 : Int32) (i1 : Int32) (i2 : Int32) (h0 : Heap) (n0 : Nat) (v : Option Value) (h : Heap) (L : List Loc) : Prop := v = some (.int 1) ∧ Fr n0 L
theorem own_pd2 : parseMethodDescriptor "(IDII[D[I)Z" = some ⟨[.int, .double, .int, .int, (.array .double), (.array .int)], some .boolean⟩ := by decide +kernel
theorem own_pd3 : parseMethodDescriptor "(IIIIZDI[D[I[D[I)Z" = some ⟨[.int, .int, .int, .int, .boolean, .double, .int, (.array .double), (.array .int), (.array .double), (.array .int)], some .boolean⟩ := by decide +kernel
set_option maxRecDepth 65536 in
set_option maxHeartbeats 40000000 in
theorem rm0 (l : Launch) (Z : State) (a0 : Array Value) (hw : ∀ d ∈ tables_1, d.before a0 Z = true) (ws : List Jvm.Cond) (i0 : Int32) (i1 : Int32) (i2 : Int32) (h0 : Heap) (n0 : Nat) (Z0 : n0 ≤ h0.size)  :
    MetFree l x (head1 (Jvm.Cond.code x code maxLocals ret :: ws) room_1) (fun aa U => aa = #[(.int i0), (.int i1), (.int i2)] ∧ Z.Warmed39 U.vm ∧ U.heap = h0) (fun _ _ _ _ _ => True) (fun _ U ou U' => ∃ v L, ou = .returned v ∧ Q_rm0 Z i0 i1 i2 h0 n0 v U'.heap L ∧ FrameEnd U ou U' L room_1.cells room_1.slots) := by
  refine MetFree.of_bodySF (plainFor_of_name own_pn0) hisR ?_
  intro p e s m args below meth c s₁ Bd hml0 hP hK
  obtain ⟨rfl, hZ, hh⟩ := hP
  have hx := Bd.exec
  have hby := Bd.bytes
  have hml : c.maxLocals = 22 := hml0
  have hown : s.vm.findClass "com/example/outpost/outpost/model/DistancesKeepNearerPinLaw" = some m.cls := findClass_of_methodNamed Bd.named
  have hnm := (name_of_methodNamed Bd.named Bd.method).1
  have X0 : Stand p l e room_1 s m #[(.int i0), (.int i1), (.int i2)] below meth c s₁ [] 0 0 := Stand.of_body Bd
  have e0 : s₁.heap = h0 := by rw [← hh, Bd.state]; rfl
  have N0 := Fr.nil n0
  show own_Go p e below (fun o u L => FrameEnd s o u L room_1.cells room_1.slots) (Q_rm0 Z i0 i1 i2 h0 n0) (s₁.setTop (entryFrame m #[(.int i0), (.int i1), (.int i2)] maxLocals))
  rw [own_ef_rm0 m i0 i1 i2]
  show own_Go _ _ _ _ _ (State.setTop _ (mkF _ 0 #[.val (.int i0), .val (.int i1), .val (.int i2), .unset, .unset, .unset, .unset, .unset, .unset, .unset, .unset, .unset, .unset, .unset, .unset, .unset, .unset, .unset, .unset, .unset, .unset, .unset] []))
  refine own_ldcD X0 hx hZ hown (own_hw hw 0 rfl) 3 rfl (hb hby at_0) ?_
  refine own_dstoreN X0 hx 4 rfl (hb hby at_3) #[.val (.int i0), .val (.int i1), .val (.int i2), .val (.double (9218868437227405312 : UInt64)), .second, .unset, .unset, .unset, .unset, .unset, .unset, .unset, .unset, .unset, .unset, .unset, .unset, .unset, .unset, .unset, .unset, .unset] rfl ?_
  refine own_iconst X0 hx 5 rfl (hb hby at_4) (1 : Int32) rfl ?_
  refine own_iloadN X0 hx 6 rfl (hb hby at_5) rfl ?_
  refine own_iconst X0 hx 7 rfl (hb hby at_6) (3 : Int32) rfl ?_
  refine own_iand X0 hx 8 rfl (hb hby at_7) _ rfl ?_
  refine own_iconst X0 hx 9 rfl (hb hby at_8) (3 : Int32) rfl ?_
  refine own_irem X0 hx 10 rfl (hb hby at_9) (by decide) _ rfl ?_
  refine own_iadd X0 hx 11 rfl (hb hby at_10) _ rfl ?_
  refine own_istore X0 hx 13 rfl (hb hby at_11) #[.val (.int i0), .val (.int i1), .val (.int i2), .val (.double (9218868437227405312 : UInt64)), .second, .val (.int ((1 : Int32) + ((i0 &&& (3 : Int32)) % (3 : Int32)))), .unset, .unset, .unset, .unset, .unset, .unset, .unset, .unset, .unset, .unset, .unset, .unset, .unset, .unset, .unset, .unset] rfl ?_
  show own_Go _ _ _ _ _ (State.setTop _ (mkF _ 13 #[.val (.int i0), .val (.int i1), .val (.int i2), .val (.double (9218868437227405312 : UInt64)), .second, .val (.int (own_r i0)), .unset, .unset, .unset, .unset, .unset, .unset, .unset, .unset, .unset, .unset, .unset, .unset, .unset, .unset, .unset, .unset] []))
  refine own_iloadN X0 hx 14 rfl (hb hby at_13) rfl ?_
  refine own_iconst X0 hx 15 rfl (hb hby at_14) (2 : Int32) rfl ?_
  refine own_iushr X0 hx 16 rfl (hb hby at_15) _ rfl ?_
  refine own_iconst X0 hx 17 rfl (hb hby at_16) (1 : Int32) rfl ?_
  refine own_iand X0 hx 18 rfl (hb hby at_17) _ rfl ?_
  refine own_istore X0 hx 20 rfl (hb hby at_18) #[.val (.int i0), .val (.int i1), .val (.int i2), .val (.double (9218868437227405312 : UInt64)), .second, .val (.int (own_r i0)), .val (.int (((i0.toUInt32 >>> ((2 : Int32) &&& 31).toUInt32).toInt32) &&& (1 : Int32))), .unset, .unset, .unset, .unset, .unset, .unset, .unset, .unset, .unset, .unset, .unset, .unset, .unset, .unset, .unset] rfl ?_
  show own_Go _ _ _ _ _ (State.setTop _ (mkF _ 20 #[.val (.int i0), .val (.int i1), .val (.int i2), .val (.double (9218868437227405312 : UInt64)), .second, .val (.int (own_r i0)), .val (.int (own_to i0)), .unset, .unset, .unset, .unset, .unset, .unset, .unset, .unset, .unset, .unset, .unset, .unset, .unset, .unset, .unset] []))
  refine own_iloadN X0 hx 21 rfl (hb hby at_20) rfl ?_
  refine own_iconst X0 hx 22 rfl (hb hby at_21) (3 : Int32) rfl ?_
  refine own_iushr X0 hx 23 rfl (hb hby at_22) _ rfl ?_
  refine own_iconst X0 hx 24 rfl (hb hby at_23) (3 : Int32) rfl ?_
  refine own_iand X0 hx 25 rfl (hb hby at_24) _ rfl ?_
  refine own_istore X0 hx 27 rfl (hb hby at_25) #[.val (.int i0), .val (.int i1), .val (.int i2), .val (.double (9218868437227405312 : UInt64)), .second, .val (.int (own_r i0)), .val (.int (own_to i0)), .val (.int (((i0.toUInt32 >>> ((3 : Int32) &&& 31).toUInt32).toInt32) &&& (3 : Int32))), .unset, .unset, .unset, .unset, .unset, .unset, .unset, .unset, .unset, .unset, .unset, .unset, .unset, .unset] rfl ?_
  show own_Go _ _ _ _ _ (State.setTop _ (mkF _ 27 #[.val (.int i0), .val (.int i1), .val (.int i2), .val (.double (9218868437227405312 : UInt64)), .second, .val (.int (own_r i0)), .val (.int (own_to i0)), .val (.int (own_k i0)), .unset, .unset, .unset, .unset, .unset, .unset, .unset, .unset, .unset, .unset, .unset, .unset, .unset, .unset] []))
  refine own_iloadN X0 hx 28 rfl (hb hby at_27) rfl ?_
  refine own_iconst X0 hx 29 rfl (hb hby at_28) (5 : Int32) rfl ?_
  refine own_iushr X0 hx 30 rfl (hb hby at_29) _ rfl ?_
  refine own_iconst X0 hx 31 rfl (hb hby at_30) (3 : Int32) rfl ?_
  refine own_iand X0 hx 32 rfl (hb hby at_31) _ rfl ?_
  refine own_iconst X0 hx 33 rfl (hb hby at_32) (3 : Int32) rfl ?_
  have J89 : ∀ (f8 : Int32) (d : UInt64), (FP.Core.val64 d ≠ .nan) → own_Go p e below (fun o u L => FrameEnd s o u L room_1.cells room_1.slots) (Q_rm0 Z i0 i1 i2 h0 n0) (s₁.setTop (mkF m 89 #[.val (.int i0), .val (.int i1), .val (.int i2), .val (.double (9218868437227405312 : UInt64)), .second, .val (.int (own_r i0)), .val (.int (own_to i0)), .val (.int (own_k i0)), .val (.int f8), .val (.int (own_a0 i1)), .val (.int (own_a1 i1)), .val (.int (own_a2 i1)), .unset, .unset, .unset, .unset, .unset, .unset, .unset, .unset, .unset, .unset] [(.double d)])) := by
    intro f8 d hd
    show own_Go _ _ _ _ _ (State.setTop _ (mkF _ 89 #[.val (.int i0), .val (.int i1), .val (.int i2), .val (.double (9218868437227405312 : UInt64)), .second, .val (.int (own_r i0)), .val (.int (own_to i0)), .val (.int (own_k i0)), .val (.int f8), .val (.int (own_a0 i1)), .val (.int (own_a1 i1)), .val (.int (own_a2 i1)), .unset, .unset, .unset, .unset, .unset, .unset, .unset, .unset, .unset, .unset] [(.double d)]))
    refine own_dstore X0 hx 91 rfl (hb hby at_89) #[.val (.int i0), .val (.int i1), .val (.int i2), .val (.double (9218868437227405312 : UInt64)), .second, .val (.int (own_r i0)), .val (.int (own_to i0)), .val (.int (own_k i0)), .val (.int f8), .val (.int (own_a0 i1)), .val (.int (own_a1 i1)), .val (.int (own_a2 i1)), .val (.double d), .second, .unset, .unset, .unset, .unset, .unset, .unset, .unset, .unset] rfl ?_
    refine own_bipush X0 hx 93 rfl (hb hby at_91) (6 : Int32) rfl ?_
    refine own_newA X0 hx hZ (own_hw hw 1 rfl) e0 95 rfl (hb hby at_93) (by decide) 6 (by decide) (by decide) (by decide) (by decide) "[D" (by decide) fun T365 h365 k365 b365 g365 X365 e365 E365 A365 C365 => ?_
    have ge366 : n0 ≤ b365 := Nat.le_trans Z0 (Nat.le_of_eq g365.symm)
    have z367 := Nat.le_trans Z0 E365.1
    have f368 : Arv Z h365 b365 k365 .double (6 : Int32) [(.double (0 : UInt64)), (.double (0 : UInt64)), (.double (0 : UInt64)), (.double (0 : UInt64)), (.double (0 : UInt64)), (.double (0 : UInt64))] (.double (0 : UInt64)) := (Arv.new A365 (by decide)).pad (pad_rep [] (.double (0 : UInt64)) 6)
    refine own_astore X365 hx 97 rfl (hb hby at_95) rfl #[.val (.int i0), .val (.int i1), .val (.int i2), .val (.double (9218868437227405312 : UInt64)), .second, .val (.int (own_r i0)), .val (.int (own_to i0)), .val (.int (own_k i0)), .val (.int f8), .val (.int (own_a0 i1)), .val (.int (own_a1 i1)), .val (.int (own_a2 i1)), .val (.double d), .second, .val (.ref b365), .unset, .unset, .unset, .unset, .unset, .unset, .unset] rfl ?_
    refine own_bipush X365 hx 99 rfl (hb hby at_97) (6 : Int32) rfl ?_
    refine own_newA X365 hx hZ (own_hw hw 2 rfl) e365 101 rfl (hb hby at_99) (by decide) 6 (by decide) (by decide) (by decide) (by decide) "[I" (by decide) fun T369 h369 k369 b369 g369 X369 e369 E369 A369 C369 => ?_
    have ne370 : b365 ≠ b369 := Nat.ne_of_lt (Nat.lt_of_lt_of_le C365.lt (Nat.le_of_eq g369.symm))
    have ge371 : n0 ≤ b369 := Nat.le_trans z367 (Nat.le_of_eq g369.symm)
    have f372 := C365.ext E369
    have f373 := f368.ext E369
    have z374 := Nat.le_trans z367 E369.1
    have f375 : Arv Z h369 b369 k369 .int (6 : Int32) [(.int (0 : Int32)), (.int (0 : Int32)), (.int (0 : Int32)), (.int (0 : Int32)), (.int (0 : Int32)), (.int (0 : Int32))] (.int (0 : Int32)) := (Arv.new A369 (by decide)).pad (pad_rep [] (.int (0 : Int32)) 6)
    refine own_astore X369 hx 103 rfl (hb hby at_101) rfl #[.val (.int i0), .val (.int i1), .val (.int i2), .val (.double (9218868437227405312 : UInt64)), .second, .val (.int (own_r i0)), .val (.int (own_to i0)), .val (.int (own_k i0)), .val (.int f8), .val (.int (own_a0 i1)), .val (.int (own_a1 i1)), .val (.int (own_a2 i1)), .val (.double d), .second, .val (.ref b365), .val (.ref b369), .unset, .unset, .unset, .unset, .unset, .unset] rfl ?_
    refine own_aload X369 hx 105 rfl (hb hby at_103) rfl rfl ?_
    refine own_iconst X369 hx 106 rfl (hb hby at_105) (0 : Int32) rfl ?_
    refine own_ldcD X369 hx hZ hown (own_hw hw 3 rfl) 109 rfl (hb hby at_106) ?_
    refine own_stD X369 hx hZ e369 f373 ⟨by decide, by decide⟩ 0 rfl (Nat.le_of_ble_eq_true rfl) [(.double (4652007308841189376 : UInt64)), (.double (0 : UInt64)), (.double (0 : UInt64)), (.double (0 : UInt64)), (.double (0 : UInt64)), (.double (0 : UInt64))] rfl 110 rfl (hb hby at_109) fun T376 h376 X376 e376 W376 f377 => ?_
    have f378 := f372.wr W376
    have f379 := C369.wr W376
    have f380 := f375.other W376 (Ne.symm ne370)
    have z381 := Nat.le_trans z374 (Keep.of_wr W376).1
    have N382 := Fr.snoc X376 N0 ge366
    refine own_aload X376 hx 112 rfl (hb hby at_110) rfl rfl ?_
    refine own_iconst X376 hx 113 rfl (hb hby at_112) (1 : Int32) rfl ?_
    refine own_ldcD X376 hx hZ hown (own_hw hw 4 rfl) 116 rfl (hb hby at_113) ?_
    refine own_stD X376 hx hZ e376 f377 ⟨by decide, by decide⟩ 1 rfl (Nat.le_of_ble_eq_true rfl) [(.double (4652007308841189376 : UInt64)), (.double (4652016104934211584 : UInt64)), (.double (0 : UInt64)), (.double (0 : UInt64)), (.double (0 : UInt64)), (.double (0 : UInt64))] rfl 117 rfl (hb hby at_116) fun T383 h383 X383 e383 W383 f384 => ?_
    have f385 := f378.wr W383
    have f386 := f379.wr W383
    have f387 := f380.other W383 (Ne.symm ne370)
    have z388 := Nat.le_trans z381 (Keep.of_wr W383).1
    have N389 := Fr.snoc X383 N382 ge366
    refine own_aload X383 hx 119 rfl (hb hby at_117) rfl rfl ?_
    refine own_iconst X383 hx 120 rfl (hb hby at_119) (2 : Int32) rfl ?_
    refine own_ldcD X383 hx hZ hown (own_hw hw 5 rfl) 123 rfl (hb hby at_120) ?_
    refine own_stD X383 hx hZ e383 f384 ⟨by decide, by decide⟩ 2 rfl (Nat.le_of_ble_eq_true rfl) [(.double (4652007308841189376 : UInt64)), (.double (4652016104934211584 : UInt64)), (.double (4652024901027233792 : UInt64)), (.double (0 : UInt64)), (.double (0 : UInt64)), (.double (0 : UInt64))] rfl 124 rfl (hb hby at_123) fun T390 h390 X390 e390 W390 f391 => ?_
    have f392 := f385.wr W390
    have f393 := f386.wr W390
    have f394 := f387.other W390 (Ne.symm ne370)
    have z395 := Nat.le_trans z388 (Keep.of_wr W390).1
    have N396 := Fr.snoc X390 N389 ge366
    refine own_aload X390 hx 126 rfl (hb hby at_124) rfl rfl ?_
    refine own_iconst X390 hx 127 rfl (hb hby at_126) (3 : Int32) rfl ?_
    refine own_ldcD X390 hx hZ hown (own_hw hw 6 rfl) 130 rfl (hb hby at_127) ?_
    refine own_stD X390 hx hZ e390 f391 ⟨by decide, by decide⟩ 3 rfl (Nat.le_of_ble_eq_true rfl) [(.double (4652007308841189376 : UInt64)), (.double (4652016104934211584 : UInt64)), (.double (4652024901027233792 : UInt64)), (.double (4652033697120256000 : UInt64)), (.double (0 : UInt64)), (.double (0 : UInt64))] rfl 131 rfl (hb hby at_130) fun T397 h397 X397 e397 W397 f398 => ?_
    have f399 := f392.wr W397
    have f400 := f393.wr W397
    have f401 := f394.other W397 (Ne.symm ne370)
    have z402 := Nat.le_trans z395 (Keep.of_wr W397).1
    have N403 := Fr.snoc X397 N396 ge366
    refine own_aload X397 hx 133 rfl (hb hby at_131) rfl rfl ?_
    refine own_iconst X397 hx 134 rfl (hb hby at_133) (4 : Int32) rfl ?_
    refine own_ldcD X397 hx hZ hown (own_hw hw 7 rfl) 137 rfl (hb hby at_134) ?_
    refine own_stD X397 hx hZ e397 f398 ⟨by decide, by decide⟩ 4 rfl (Nat.le_of_ble_eq_true rfl) [(.double (4652007308841189376 : UInt64)), (.double (4652016104934211584 : UInt64)), (.double (4652024901027233792 : UInt64)), (.double (4652033697120256000 : UInt64)), (.double (4652042493213278208 : UInt64)), (.double (0 : UInt64))] rfl 138 rfl (hb hby at_137) fun T404 h404 X404 e404 W404 f405 => ?_
    have f406 := f399.wr W404
    have f407 := f400.wr W404
    have f408 := f401.other W404 (Ne.symm ne370)
    have z409 := Nat.le_trans z402 (Keep.of_wr W404).1
    have N410 := Fr.snoc X404 N403 ge366
    refine own_aload X404 hx 140 rfl (hb hby at_138) rfl rfl ?_
    refine own_iconst X404 hx 141 rfl (hb hby at_140) (5 : Int32) rfl ?_
    refine own_ldcD X404 hx hZ hown (own_hw hw 8 rfl) 144 rfl (hb hby at_141) ?_
    refine own_stD X404 hx hZ e404 f405 ⟨by decide, by decide⟩ 5 rfl (Nat.le_of_ble_eq_true rfl) [(.double (4652007308841189376 : UInt64)), (.double (4652016104934211584 : UInt64)), (.double (4652024901027233792 : UInt64)), (.double (4652033697120256000 : UInt64)), (.double (4652042493213278208 : UInt64)), (.double (4652051289306300416 : UInt64))] rfl 145 rfl (hb hby at_144) fun T411 h411 X411 e411 W411 f412 => ?_
    have f413 := f406.wr W411
    have f414 := f407.wr W411
    have f415 := f408.other W411 (Ne.symm ne370)
    have z416 := Nat.le_trans z409 (Keep.of_wr W411).1
    have N417 := Fr.snoc X411 N410 ge366
    refine own_aload X411 hx 147 rfl (hb hby at_145) rfl rfl ?_
    refine own_iconst X411 hx 148 rfl (hb hby at_147) (0 : Int32) rfl ?_
    refine own_bipush X411 hx 150 rfl (hb hby at_148) (10 : Int32) rfl ?_
    refine own_stI X411 hx hZ e411 f415 ⟨by decide, by decide⟩ 0 rfl (Nat.le_of_ble_eq_true rfl) [(.int (10 : Int32)), (.int (0 : Int32)), (.int (0 : Int32)), (.int (0 : Int32)), (.int (0 : Int32)), (.int (0 : Int32))] rfl 151 rfl (hb hby at_150) fun T418 h418 X418 e418 W418 f419 => ?_
    have f420 := f413.wr W418
    have f421 := f414.wr W418
    have f422 := f412.other W418 ne370
    have z423 := Nat.le_trans z416 (Keep.of_wr W418).1
    have N424 := Fr.snoc X418 N417 ge371
    refine own_aload X418 hx 153 rfl (hb hby at_151) rfl rfl ?_
    refine own_iconst X418 hx 154 rfl (hb hby at_153) (1 : Int32) rfl ?_
    refine own_bipush X418 hx 156 rfl (hb hby at_154) (11 : Int32) rfl ?_
    refine own_stI X418 hx hZ e418 f419 ⟨by decide, by decide⟩ 1 rfl (Nat.le_of_ble_eq_true rfl) [(.int (10 : Int32)), (.int (11 : Int32)), (.int (0 : Int32)), (.int (0 : Int32)), (.int (0 : Int32)), (.int (0 : Int32))] rfl 157 rfl (hb hby at_156) fun T425 h425 X425 e425 W425 f426 => ?_
    have f427 := f420.wr W425
    have f428 := f421.wr W425
    have f429 := f422.other W425 ne370
    have z430 := Nat.le_trans z423 (Keep.of_wr W425).1
    have N431 := Fr.snoc X425 N424 ge371
    refine own_aload X425 hx 159 rfl (hb hby at_157) rfl rfl ?_
    refine own_iconst X425 hx 160 rfl (hb hby at_159) (2 : Int32) rfl ?_
    refine own_bipush X425 hx 162 rfl (hb hby at_160) (12 : Int32) rfl ?_
    refine own_stI X425 hx hZ e425 f426 ⟨by decide, by decide⟩ 2 rfl (Nat.le_of_ble_eq_true rfl) [(.int (10 : Int32)), (.int (11 : Int32)), (.int (12 : Int32)), (.int (0 : Int32)), (.int (0 : Int32)), (.int (0 : Int32))] rfl 163 rfl (hb hby at_162) fun T432 h432 X432 e432 W432 f433 => ?_
    have f434 := f427.wr W432
    have f435 := f428.wr W432
    have f436 := f429.other W432 ne370
    have z437 := Nat.le_trans z430 (Keep.of_wr W432).1
    have N438 := Fr.snoc X432 N431 ge371
    refine own_aload X432 hx 165 rfl (hb hby at_163) rfl rfl ?_
    refine own_iconst X432 hx 166 rfl (hb hby at_165) (3 : Int32) rfl ?_
    refine own_bipush X432 hx 168 rfl (hb hby at_166) (13 : Int32) rfl ?_
    refine own_stI X432 hx hZ e432 f433 ⟨by decide, by decide⟩ 3 rfl (Nat.le_of_ble_eq_true rfl) [(.int (10 : Int32)), (.int (11 : Int32)), (.int (12 : Int32)), (.int (13 : Int32)), (.int (0 : Int32)), (.int (0 : Int32))] rfl 169 rfl (hb hby at_168) fun T439 h439 X439 e439 W439 f440 => ?_
    have f441 := f434.wr W439
    have f442 := f435.wr W439
    have f443 := f436.other W439 ne370
    have z444 := Nat.le_trans z437 (Keep.of_wr W439).1
    have N445 := Fr.snoc X439 N438 ge371
    refine own_aload X439 hx 171 rfl (hb hby at_169) rfl rfl ?_
    refine own_iconst X439 hx 172 rfl (hb hby at_171) (4 : Int32) rfl ?_
    refine own_bipush X439 hx 174 rfl (hb hby at_172) (14 : Int32) rfl ?_
    refine own_stI X439 hx hZ e439 f440 ⟨by decide, by decide⟩ 4 rfl (Nat.le_of_ble_eq_true rfl) [(.int (10 : Int32)), (.int (11 : Int32)), (.int (12 : Int32)), (.int (13 : Int32)), (.int (14 : Int32)), (.int (0 : Int32))] rfl 175 rfl (hb hby at_174) fun T446 h446 X446 e446 W446 f447 => ?_
    have f448 := f441.wr W446
    have f449 := f442.wr W446
    have f450 := f443.other W446 ne370
    have z451 := Nat.le_trans z444 (Keep.of_wr W446).1
    have N452 := Fr.snoc X446 N445 ge371
    refine own_aload X446 hx 177 rfl (hb hby at_175) rfl rfl ?_
    refine own_iconst X446 hx 178 rfl (hb hby at_177) (5 : Int32) rfl ?_
    refine own_bipush X446 hx 180 rfl (hb hby at_178) (15 : Int32) rfl ?_
    refine own_stI X446 hx hZ e446 f447 ⟨by decide, by decide⟩ 5 rfl (Nat.le_of_ble_eq_true rfl) [(.int (10 : Int32)), (.int (11 : Int32)), (.int (12 : Int32)), (.int (13 : Int32)), (.int (14 : Int32)), (.int (15 : Int32))] rfl 181 rfl (hb hby at_180) fun T453 h453 X453 e453 W453 f454 => ?_
    have f455 := f448.wr W453
    have f456 := f449.wr W453
    have f457 := f450.other W453 ne370
    have z458 := Nat.le_trans z451 (Keep.of_wr W453).1
    have N459 := Fr.snoc X453 N452 ge371
    rcases own_r_rng i0 with hr | hr | hr <;> rcases own_to_rng i0 with ht | ht <;> rw [hr, ht]
    ·
      show own_Go _ _ _ _ _ (State.setTop _ (mkF _ 181 #[.val (.int i0), .val (.int i1), .val (.int i2), .val (.double (9218868437227405312 : UInt64)), .second, .val (.int (1 : Int32)), .val (.int (0 : Int32)), .val (.int (own_k i0)), .val (.int f8), .val (.int (own_a0 i1)), .val (.int (own_a1 i1)), .val (.int (own_a2 i1)), .val (.double d), .second, .val (.ref b365), .val (.ref b369), .unset, .unset, .unset, .unset, .unset, .unset] []))
      refine own_iload X453 hx 183 rfl (hb hby at_181) rfl ?_
      refine own_iload X453 hx 185 rfl (hb hby at_183) rfl ?_
      refine own_imul X453 hx 186 rfl (hb hby at_185) (0 : Int32) rfl ?_
      refine own_istore X453 hx 188 rfl (hb hby at_186) #[.val (.int i0), .val (.int i1), .val (.int i2), .val (.double (9218868437227405312 : UInt64)), .second, .val (.int (1 : Int32)), .val (.int (0 : Int32)), .val (.int (own_k i0)), .val (.int f8), .val (.int (own_a0 i1)), .val (.int (own_a1 i1)), .val (.int (own_a2 i1)), .val (.double d), .second, .val (.ref b365), .val (.ref b369), .val (.int (0 : Int32)), .unset, .unset, .unset, .unset, .unset] rfl ?_
      refine own_aload X453 hx 190 rfl (hb hby at_188) rfl rfl ?_
      refine own_iload X453 hx 192 rfl (hb hby at_190) rfl ?_
      refine own_iconst X453 hx 193 rfl (hb hby at_192) (0 : Int32) rfl ?_
      refine own_iload X453 hx 195 rfl (hb hby at_193) rfl ?_
      have J205 : ∀ (e0 : UInt64), (e0 = (own_v (0 : Int32) (own_k i0) (own_a0 i1))) → own_Go p e below (fun o u L => FrameEnd s o u L room_1.cells room_1.slots) (Q_rm0 Z i0 i1 i2 h0 n0) (T453.setTop (mkF m 205 #[.val (.int i0), .val (.int i1), .val (.int i2), .val (.double (9218868437227405312 : UInt64)), .second, .val (.int (1 : Int32)), .val (.int (0 : Int32)), .val (.int (own_k i0)), .val (.int f8), .val (.int (own_a0 i1)), .val (.int (own_a1 i1)), .val (.int (own_a2 i1)), .val (.double d), .second, .val (.ref b365), .val (.ref b369), .val (.int (0 : Int32)), .unset, .unset, .unset, .unset, .unset] [(.double e0), (.int (0 : Int32)), (.ref b365)])) := by
        intro e0 he0
        have nn0 : FP.Core.val64 e0 ≠ .nan := by rw [he0]; exact own_v_nan _ _ _
        show own_Go _ _ _ _ _ (State.setTop _ (mkF _ 205 _ [(.double e0), (.int (0 : Int32)), (.ref b365)]))
        refine own_stD X453 hx hZ e453 f457 ⟨by decide, by decide⟩ 0 rfl (Nat.le_of_ble_eq_true rfl) [(.double e0), (.double (4652016104934211584 : UInt64)), (.double (4652024901027233792 : UInt64)), (.double (4652033697120256000 : UInt64)), (.double (4652042493213278208 : UInt64)), (.double (4652051289306300416 : UInt64))] rfl 206 rfl (hb hby at_205) fun T460 h460 X460 e460 W460 f461 => ?_
        have f462 := f455.wr W460
        have f463 := f456.wr W460
        have f464 := f454.other W460 (Ne.symm ne370)
        have z465 := Nat.le_trans z458 (Keep.of_wr W460).1
        have N466 := Fr.snoc X460 N459 ge366
        refine own_iload X460 hx 208 rfl (hb hby at_206) rfl ?_
        refine own_iconst X460 hx 209 rfl (hb hby at_208) (2 : Int32) rfl ?_
        refine own_icmpYes X460 hx 232 (hb hby at_209) (by decide) (by decide) rfl ?_
        refine own_iload X460 hx 234 rfl (hb hby at_232) rfl ?_
        refine own_iconst X460 hx 235 rfl (hb hby at_234) (3 : Int32) rfl ?_
        refine own_icmpYes X460 hx 258 (hb hby at_235) (by decide) (by decide) rfl ?_
        refine own_bipush X460 hx 260 rfl (hb hby at_258) (6 : Int32) rfl ?_
        refine own_newA X460 hx hZ (own_hw hw 1 rfl) e460 262 rfl (hb hby at_260) (by decide) 6 (by decide) (by decide) (by decide) (by decide) "[D" (by decide) fun T467 h467 k467 b467 g467 X467 e467 E467 A467 C467 => ?_
        have ne468 : b365 ≠ b467 := Nat.ne_of_lt (Nat.lt_of_lt_of_le f462.lt (Nat.le_of_eq g467.symm))
        have ne469 : b369 ≠ b467 := Nat.ne_of_lt (Nat.lt_of_lt_of_le f463.lt (Nat.le_of_eq g467.symm))
        have ge470 : n0 ≤ b467 := Nat.le_trans z465 (Nat.le_of_eq g467.symm)
        have f471 := f462.ext E467
        have f472 := f463.ext E467
        have f473 := f464.ext E467
        have f474 := f461.ext E467
        have z475 := Nat.le_trans z465 E467.1
        have f476 : Arv Z h467 b467 k467 .double (6 : Int32) [(.double (0 : UInt64)), (.double (0 : UInt64)), (.double (0 : UInt64)), (.double (0 : UInt64)), (.double (0 : UInt64)), (.double (0 : UInt64))] (.double (0 : UInt64)) := (Arv.new A467 (by decide)).pad (pad_rep [] (.double (0 : UInt64)) 6)
        refine own_astore X467 hx 264 rfl (hb hby at_262) rfl #[.val (.int i0), .val (.int i1), .val (.int i2), .val (.double (9218868437227405312 : UInt64)), .second, .val (.int (1 : Int32)), .val (.int (0 : Int32)), .val (.int (own_k i0)), .val (.int f8), .val (.int (own_a0 i1)), .val (.int (own_a1 i1)), .val (.int (own_a2 i1)), .val (.double d), .second, .val (.ref b365), .val (.ref b369), .val (.int (0 : Int32)), .val (.ref b467), .unset, .unset, .unset, .unset] rfl ?_
        refine own_aload X467 hx 266 rfl (hb hby at_264) rfl rfl ?_
        refine own_iconst X467 hx 267 rfl (hb hby at_266) (0 : Int32) rfl ?_
        refine own_aload X467 hx 269 rfl (hb hby at_267) rfl rfl ?_
        refine own_iconst X467 hx 270 rfl (hb hby at_269) (0 : Int32) rfl ?_
        refine own_ldD X467 hx hZ e467 f474 ⟨by decide, by decide⟩ e0 rfl 271 rfl (hb hby at_270) ?_
        refine own_stD X467 hx hZ e467 f476 ⟨by decide, by decide⟩ 0 rfl (Nat.le_of_ble_eq_true rfl) [(.double e0), (.double (0 : UInt64)), (.double (0 : UInt64)), (.double (0 : UInt64)), (.double (0 : UInt64)), (.double (0 : UInt64))] rfl 272 rfl (hb hby at_271) fun T477 h477 X477 e477 W477 f478 => ?_
        have f479 := f471.wr W477
        have f480 := f472.wr W477
        have f481 := f473.other W477 ne469
        have f482 := f474.other W477 ne468
        have f483 := C467.wr W477
        have z484 := Nat.le_trans z475 (Keep.of_wr W477).1
        have N485 := Fr.snoc X477 N466 ge470
        refine own_aload X477 hx 274 rfl (hb hby at_272) rfl rfl ?_
        refine own_iconst X477 hx 275 rfl (hb hby at_274) (1 : Int32) rfl ?_
        refine own_aload X477 hx 277 rfl (hb hby at_275) rfl rfl ?_
        refine own_iconst X477 hx 278 rfl (hb hby at_277) (1 : Int32) rfl ?_
        refine own_ldD X477 hx hZ e477 f482 ⟨by decide, by decide⟩ (4652016104934211584 : UInt64) rfl 279 rfl (hb hby at_278) ?_
        refine own_stD X477 hx hZ e477 f478 ⟨by decide, by decide⟩ 1 rfl (Nat.le_of_ble_eq_true rfl) [(.double e0), (.double (4652016104934211584 : UInt64)), (.double (0 : UInt64)), (.double (0 : UInt64)), (.double (0 : UInt64)), (.double (0 : UInt64))] rfl 280 rfl (hb hby at_279) fun T486 h486 X486 e486 W486 f487 => ?_
        have f488 := f479.wr W486
        have f489 := f480.wr W486
        have f490 := f481.other W486 ne469
        have f491 := f482.other W486 ne468
        have f492 := f483.wr W486
        have z493 := Nat.le_trans z484 (Keep.of_wr W486).1
        have N494 := Fr.snoc X486 N485 ge470
        refine own_aload X486 hx 282 rfl (hb hby at_280) rfl rfl ?_
        refine own_iconst X486 hx 283 rfl (hb hby at_282) (2 : Int32) rfl ?_
        refine own_aload X486 hx 285 rfl (hb hby at_283) rfl rfl ?_
        refine own_iconst X486 hx 286 rfl (hb hby at_285) (2 : Int32) rfl ?_
        refine own_ldD X486 hx hZ e486 f491 ⟨by decide, by decide⟩ (4652024901027233792 : UInt64) rfl 287 rfl (hb hby at_286) ?_
        refine own_stD X486 hx hZ e486 f487 ⟨by decide, by decide⟩ 2 rfl (Nat.le_of_ble_eq_true rfl) [(.double e0), (.double (4652016104934211584 : UInt64)), (.double (4652024901027233792 : UInt64)), (.double (0 : UInt64)), (.double (0 : UInt64)), (.double (0 : UInt64))] rfl 288 rfl (hb hby at_287) fun T495 h495 X495 e495 W495 f496 => ?_
        have f497 := f488.wr W495
        have f498 := f489.wr W495
        have f499 := f490.other W495 ne469
        have f500 := f491.other W495 ne468
        have f501 := f492.wr W495
        have z502 := Nat.le_trans z493 (Keep.of_wr W495).1
        have N503 := Fr.snoc X495 N494 ge470
        refine own_aload X495 hx 290 rfl (hb hby at_288) rfl rfl ?_
        refine own_iconst X495 hx 291 rfl (hb hby at_290) (3 : Int32) rfl ?_
        refine own_aload X495 hx 293 rfl (hb hby at_291) rfl rfl ?_
        refine own_iconst X495 hx 294 rfl (hb hby at_293) (3 : Int32) rfl ?_
        refine own_ldD X495 hx hZ e495 f500 ⟨by decide, by decide⟩ (4652033697120256000 : UInt64) rfl 295 rfl (hb hby at_294) ?_
        refine own_stD X495 hx hZ e495 f496 ⟨by decide, by decide⟩ 3 rfl (Nat.le_of_ble_eq_true rfl) [(.double e0), (.double (4652016104934211584 : UInt64)), (.double (4652024901027233792 : UInt64)), (.double (4652033697120256000 : UInt64)), (.double (0 : UInt64)), (.double (0 : UInt64))] rfl 296 rfl (hb hby at_295) fun T504 h504 X504 e504 W504 f505 => ?_
        have f506 := f497.wr W504
        have f507 := f498.wr W504
        have f508 := f499.other W504 ne469
        have f509 := f500.other W504 ne468
        have f510 := f501.wr W504
        have z511 := Nat.le_trans z502 (Keep.of_wr W504).1
        have N512 := Fr.snoc X504 N503 ge470
        refine own_aload X504 hx 298 rfl (hb hby at_296) rfl rfl ?_
        refine own_iconst X504 hx 299 rfl (hb hby at_298) (4 : Int32) rfl ?_
        refine own_aload X504 hx 301 rfl (hb hby at_299) rfl rfl ?_
        refine own_iconst X504 hx 302 rfl (hb hby at_301) (4 : Int32) rfl ?_
        refine own_ldD X504 hx hZ e504 f509 ⟨by decide, by decide⟩ (4652042493213278208 : UInt64) rfl 303 rfl (hb hby at_302) ?_
        refine own_stD X504 hx hZ e504 f505 ⟨by decide, by decide⟩ 4 rfl (Nat.le_of_ble_eq_true rfl) [(.double e0), (.double (4652016104934211584 : UInt64)), (.double (4652024901027233792 : UInt64)), (.double (4652033697120256000 : UInt64)), (.double (4652042493213278208 : UInt64)), (.double (0 : UInt64))] rfl 304 rfl (hb hby at_303) fun T513 h513 X513 e513 W513 f514 => ?_
        have f515 := f506.wr W513
        have f516 := f507.wr W513
        have f517 := f508.other W513 ne469
        have f518 := f509.other W513 ne468
        have f519 := f510.wr W513
        have z520 := Nat.le_trans z511 (Keep.of_wr W513).1
        have N521 := Fr.snoc X513 N512 ge470
        refine own_aload X513 hx 306 rfl (hb hby at_304) rfl rfl ?_
        refine own_iconst X513 hx 307 rfl (hb hby at_306) (5 : Int32) rfl ?_
        refine own_aload X513 hx 309 rfl (hb hby at_307) rfl rfl ?_
        refine own_iconst X513 hx 310 rfl (hb hby at_309) (5 : Int32) rfl ?_
        refine own_ldD X513 hx hZ e513 f518 ⟨by decide, by decide⟩ (4652051289306300416 : UInt64) rfl 311 rfl (hb hby at_310) ?_
        refine own_stD X513 hx hZ e513 f514 ⟨by decide, by decide⟩ 5 rfl (Nat.le_of_ble_eq_true rfl) [(.double e0), (.double (4652016104934211584 : UInt64)), (.double (4652024901027233792 : UInt64)), (.double (4652033697120256000 : UInt64)), (.double (4652042493213278208 : UInt64)), (.double (4652051289306300416 : UInt64))] rfl 312 rfl (hb hby at_311) fun T522 h522 X522 e522 W522 f523 => ?_
        have f524 := f515.wr W522
        have f525 := f516.wr W522
        have f526 := f517.other W522 ne469
        have f527 := f518.other W522 ne468
        have f528 := f519.wr W522
        have z529 := Nat.le_trans z520 (Keep.of_wr W522).1
        have N530 := Fr.snoc X522 N521 ge470
        refine own_bipush X522 hx 314 rfl (hb hby at_312) (6 : Int32) rfl ?_
        refine own_newA X522 hx hZ (own_hw hw 2 rfl) e522 316 rfl (hb hby at_314) (by decide) 6 (by decide) (by decide) (by decide) (by decide) "[I" (by decide) fun T531 h531 k531 b531 g531 X531 e531 E531 A531 C531 => ?_
        have ne532 : b365 ≠ b531 := Nat.ne_of_lt (Nat.lt_of_lt_of_le f524.lt (Nat.le_of_eq g531.symm))
        have ne533 : b369 ≠ b531 := Nat.ne_of_lt (Nat.lt_of_lt_of_le f525.lt (Nat.le_of_eq g531.symm))
        have ne534 : b467 ≠ b531 := Nat.ne_of_lt (Nat.lt_of_lt_of_le f528.lt (Nat.le_of_eq g531.symm))
        have ge535 : n0 ≤ b531 := Nat.le_trans z529 (Nat.le_of_eq g531.symm)
        have f536 := f524.ext E531
        have f537 := f525.ext E531
        have f538 := f526.ext E531
        have f539 := f527.ext E531
        have f540 := f528.ext E531
        have f541 := f523.ext E531
        have z542 := Nat.le_trans z529 E531.1
        have f543 : Arv Z h531 b531 k531 .int (6 : Int32) [(.int (0 : Int32)), (.int (0 : Int32)), (.int (0 : Int32)), (.int (0 : Int32)), (.int (0 : Int32)), (.int (0 : Int32))] (.int (0 : Int32)) := (Arv.new A531 (by decide)).pad (pad_rep [] (.int (0 : Int32)) 6)
        refine own_astore X531 hx 318 rfl (hb hby at_316) rfl #[.val (.int i0), .val (.int i1), .val (.int i2), .val (.double (9218868437227405312 : UInt64)), .second, .val (.int (1 : Int32)), .val (.int (0 : Int32)), .val (.int (own_k i0)), .val (.int f8), .val (.int (own_a0 i1)), .val (.int (own_a1 i1)), .val (.int (own_a2 i1)), .val (.double d), .second, .val (.ref b365), .val (.ref b369), .val (.int (0 : Int32)), .val (.ref b467), .val (.ref b531), .unset, .unset, .unset] rfl ?_
        refine own_aload X531 hx 320 rfl (hb hby at_318) rfl rfl ?_
        refine own_iconst X531 hx 321 rfl (hb hby at_320) (0 : Int32) rfl ?_
        refine own_aload X531 hx 323 rfl (hb hby at_321) rfl rfl ?_
        refine own_iconst X531 hx 324 rfl (hb hby at_323) (0 : Int32) rfl ?_
        refine own_ldI X531 hx hZ e531 f538 ⟨by decide, by decide⟩ (10 : Int32) rfl 325 rfl (hb hby at_324) ?_
        refine own_stI X531 hx hZ e531 f543 ⟨by decide, by decide⟩ 0 rfl (Nat.le_of_ble_eq_true rfl) [(.int (10 : Int32)), (.int (0 : Int32)), (.int (0 : Int32)), (.int (0 : Int32)), (.int (0 : Int32)), (.int (0 : Int32))] rfl 326 rfl (hb hby at_325) fun T544 h544 X544 e544 W544 f545 => ?_
        have f546 := f536.wr W544
        have f547 := f537.wr W544
        have f548 := f538.other W544 ne533
        have f549 := f539.other W544 ne532
        have f550 := f540.wr W544
        have f551 := f541.other W544 ne534
        have f552 := C531.wr W544
        have z553 := Nat.le_trans z542 (Keep.of_wr W544).1
        have N554 := Fr.snoc X544 N530 ge535
        refine own_aload X544 hx 328 rfl (hb hby at_326) rfl rfl ?_
        refine own_iconst X544 hx 329 rfl (hb hby at_328) (1 : Int32) rfl ?_
        refine own_aload X544 hx 331 rfl (hb hby at_329) rfl rfl ?_
        refine own_iconst X544 hx 332 rfl (hb hby at_331) (1 : Int32) rfl ?_
        refine own_ldI X544 hx hZ e544 f548 ⟨by decide, by decide⟩ (11 : Int32) rfl 333 rfl (hb hby at_332) ?_
        refine own_stI X544 hx hZ e544 f545 ⟨by decide, by decide⟩ 1 rfl (Nat.le_of_ble_eq_true rfl) [(.int (10 : Int32)), (.int (11 : Int32)), (.int (0 : Int32)), (.int (0 : Int32)), (.int (0 : Int32)), (.int (0 : Int32))] rfl 334 rfl (hb hby at_333) fun T555 h555 X555 e555 W555 f556 => ?_
        have f557 := f546.wr W555
        have f558 := f547.wr W555
        have f559 := f548.other W555 ne533
        have f560 := f549.other W555 ne532
        have f561 := f550.wr W555
        have f562 := f551.other W555 ne534
        have f563 := f552.wr W555
        have z564 := Nat.le_trans z553 (Keep.of_wr W555).1
        have N565 := Fr.snoc X555 N554 ge535
        refine own_aload X555 hx 336 rfl (hb hby at_334) rfl rfl ?_
        refine own_iconst X555 hx 337 rfl (hb hby at_336) (2 : Int32) rfl ?_
        refine own_aload X555 hx 339 rfl (hb hby at_337) rfl rfl ?_
        refine own_iconst X555 hx 340 rfl (hb hby at_339) (2 : Int32) rfl ?_
        refine own_ldI X555 hx hZ e555 f559 ⟨by decide, by decide⟩ (12 : Int32) rfl 341 rfl (hb hby at_340) ?_
        refine own_stI X555 hx hZ e555 f556 ⟨by decide, by decide⟩ 2 rfl (Nat.le_of_ble_eq_true rfl) [(.int (10 : Int32)), (.int (11 : Int32)), (.int (12 : Int32)), (.int (0 : Int32)), (.int (0 : Int32)), (.int (0 : Int32))] rfl 342 rfl (hb hby at_341) fun T566 h566 X566 e566 W566 f567 => ?_
        have f568 := f557.wr W566
        have f569 := f558.wr W566
        have f570 := f559.other W566 ne533
        have f571 := f560.other W566 ne532
        have f572 := f561.wr W566
        have f573 := f562.other W566 ne534
        have f574 := f563.wr W566
        have z575 := Nat.le_trans z564 (Keep.of_wr W566).1
        have N576 := Fr.snoc X566 N565 ge535
        refine own_aload X566 hx 344 rfl (hb hby at_342) rfl rfl ?_
        refine own_iconst X566 hx 345 rfl (hb hby at_344) (3 : Int32) rfl ?_
        refine own_aload X566 hx 347 rfl (hb hby at_345) rfl rfl ?_
        refine own_iconst X566 hx 348 rfl (hb hby at_347) (3 : Int32) rfl ?_
        refine own_ldI X566 hx hZ e566 f570 ⟨by decide, by decide⟩ (13 : Int32) rfl 349 rfl (hb hby at_348) ?_
        refine own_stI X566 hx hZ e566 f567 ⟨by decide, by decide⟩ 3 rfl (Nat.le_of_ble_eq_true rfl) [(.int (10 : Int32)), (.int (11 : Int32)), (.int (12 : Int32)), (.int (13 : Int32)), (.int (0 : Int32)), (.int (0 : Int32))] rfl 350 rfl (hb hby at_349) fun T577 h577 X577 e577 W577 f578 => ?_
        have f579 := f568.wr W577
        have f580 := f569.wr W577
        have f581 := f570.other W577 ne533
        have f582 := f571.other W577 ne532
        have f583 := f572.wr W577
        have f584 := f573.other W577 ne534
        have f585 := f574.wr W577
        have z586 := Nat.le_trans z575 (Keep.of_wr W577).1
        have N587 := Fr.snoc X577 N576 ge535
        refine own_aload X577 hx 352 rfl (hb hby at_350) rfl rfl ?_
        refine own_iconst X577 hx 353 rfl (hb hby at_352) (4 : Int32) rfl ?_
        refine own_aload X577 hx 355 rfl (hb hby at_353) rfl rfl ?_
        refine own_iconst X577 hx 356 rfl (hb hby at_355) (4 : Int32) rfl ?_
        refine own_ldI X577 hx hZ e577 f581 ⟨by decide, by decide⟩ (14 : Int32) rfl 357 rfl (hb hby at_356) ?_
        refine own_stI X577 hx hZ e577 f578 ⟨by decide, by decide⟩ 4 rfl (Nat.le_of_ble_eq_true rfl) [(.int (10 : Int32)), (.int (11 : Int32)), (.int (12 : Int32)), (.int (13 : Int32)), (.int (14 : Int32)), (.int (0 : Int32))] rfl 358 rfl (hb hby at_357) fun T588 h588 X588 e588 W588 f589 => ?_
        have f590 := f579.wr W588
        have f591 := f580.wr W588
        have f592 := f581.other W588 ne533
        have f593 := f582.other W588 ne532
        have f594 := f583.wr W588
        have f595 := f584.other W588 ne534
        have f596 := f585.wr W588
        have z597 := Nat.le_trans z586 (Keep.of_wr W588).1
        have N598 := Fr.snoc X588 N587 ge535
        refine own_aload X588 hx 360 rfl (hb hby at_358) rfl rfl ?_
        refine own_iconst X588 hx 361 rfl (hb hby at_360) (5 : Int32) rfl ?_
        refine own_aload X588 hx 363 rfl (hb hby at_361) rfl rfl ?_
        refine own_iconst X588 hx 364 rfl (hb hby at_363) (5 : Int32) rfl ?_
        refine own_ldI X588 hx hZ e588 f592 ⟨by decide, by decide⟩ (15 : Int32) rfl 365 rfl (hb hby at_364) ?_
        refine own_stI X588 hx hZ e588 f589 ⟨by decide, by decide⟩ 5 rfl (Nat.le_of_ble_eq_true rfl) [(.int (10 : Int32)), (.int (11 : Int32)), (.int (12 : Int32)), (.int (13 : Int32)), (.int (14 : Int32)), (.int (15 : Int32))] rfl 366 rfl (hb hby at_365) fun T599 h599 X599 e599 W599 f600 => ?_
        have f601 := f590.wr W599
        have f602 := f591.wr W599
        have f603 := f592.other W599 ne533
        have f604 := f593.other W599 ne532
        have f605 := f594.wr W599
        have f606 := f595.other W599 ne534
        have f607 := f596.wr W599
        have z608 := Nat.le_trans z597 (Keep.of_wr W599).1
        have N609 := Fr.snoc X599 N598 ge535
        refine own_dload X599 hx 368 rfl (hb hby at_366) rfl ?_
        refine own_aload X599 hx 370 rfl (hb hby at_368) rfl rfl ?_
        refine own_iload X599 hx 372 rfl (hb hby at_370) rfl ?_
        refine own_iload X599 hx 374 rfl (hb hby at_372) rfl ?_
        refine own_iadd X599 hx 375 rfl (hb hby at_374) (1 : Int32) rfl ?_
        refine own_iconst X599 hx 376 rfl (hb hby at_375) (1 : Int32) rfl ?_
        refine own_isub X599 hx 377 rfl (hb hby at_376) (0 : Int32) rfl ?_
        refine own_ldD X599 hx hZ e599 f604 ⟨by decide, by decide⟩ e0 rfl 378 rfl (hb hby at_377) ?_
        by_cases hc610 : own_z d < own_z e0
        ·
          refine own_dcmp X599 hx 379 rfl (hb hby at_378) _ rfl ?_
          refine own_ifNo X599 hx 382 rfl (hb hby at_379) ((if0 _ _).trans (tlt (own_cg hd nn0 hc610 .g)).2.1) ?_
          refine own_iconst X599 hx 383 rfl (hb hby at_382) (1 : Int32) rfl ?_
          refine own_goto X599 hx 387 (hb hby at_383) (by decide) rfl ?_
          refine own_istore X599 hx 389 rfl (hb hby at_387) #[.val (.int i0), .val (.int i1), .val (.int i2), .val (.double (9218868437227405312 : UInt64)), .second, .val (.int (1 : Int32)), .val (.int (0 : Int32)), .val (.int (own_k i0)), .val (.int f8), .val (.int (own_a0 i1)), .val (.int (own_a1 i1)), .val (.int (own_a2 i1)), .val (.double d), .second, .val (.ref b365), .val (.ref b369), .val (.int (0 : Int32)), .val (.ref b467), .val (.ref b531), .val (.int (1 : Int32)), .unset, .unset] rfl ?_
          refine own_iconst X599 hx 390 rfl (hb hby at_389) (0 : Int32) rfl ?_
          refine own_istore X599 hx 392 rfl (hb hby at_390) #[.val (.int i0), .val (.int i1), .val (.int i2), .val (.double (9218868437227405312 : UInt64)), .second, .val (.int (1 : Int32)), .val (.int (0 : Int32)), .val (.int (own_k i0)), .val (.int f8), .val (.int (own_a0 i1)), .val (.int (own_a1 i1)), .val (.int (own_a2 i1)), .val (.double d), .second, .val (.ref b365), .val (.ref b369), .val (.int (0 : Int32)), .val (.ref b467), .val (.ref b531), .val (.int (1 : Int32)), .val (.int (0 : Int32)), .unset] rfl ?_
          refine own_aload X599 hx 394 rfl (hb hby at_392) rfl rfl ?_
          refine own_iload X599 hx 396 rfl (hb hby at_394) rfl ?_
          refine own_ldD X599 hx hZ e599 f604 ⟨by decide, by decide⟩ e0 rfl 397 rfl (hb hby at_396) ?_
          refine own_dload X599 hx 399 rfl (hb hby at_397) rfl ?_
          refine own_dcmp X599 hx 400 rfl (hb hby at_399) _ rfl ?_
          refine own_ifYes X599 hx 406 (hb hby at_400) ((if0 _ _).trans (tlt (own_cp nn0 hd hc610 .g)).2.2.1) (by decide) rfl ?_
          refine own_iload X599 hx 408 rfl (hb hby at_406) rfl ?_
          refine own_iconst X599 hx 409 rfl (hb hby at_408) (2 : Int32) rfl ?_
          refine own_icmpYes X599 hx 428 (hb hby at_409) (by decide) (by decide) rfl ?_
          refine own_iload X599 hx 430 rfl (hb hby at_428) rfl ?_
          refine own_iconst X599 hx 431 rfl (hb hby at_430) (3 : Int32) rfl ?_
          refine own_icmpYes X599 hx 450 (hb hby at_431) (by decide) (by decide) rfl ?_
          refine own_iloadN X599 hx 451 rfl (hb hby at_450) rfl ?_
          refine own_dload X599 hx 453 rfl (hb hby at_451) rfl ?_
          refine own_iload X599 hx 455 rfl (hb hby at_453) rfl ?_
          refine own_iload X599 hx 457 rfl (hb hby at_455) rfl ?_
          refine own_aload X599 hx 459 rfl (hb hby at_457) rfl rfl ?_
          refine own_aload X599 hx 461 rfl (hb hby at_459) rfl rfl ?_
          refine own_callS X599 hx hZ (y := (⟨"com/example/outpost/outpost/model/Distances", "keepNearer", "(IDII[D[I)Z"⟩ : MethodName)) hown (own_hw hw 9 rfl) (own_hw hw 10 rfl) (by decide) (rm_keep_1_0_0 l Z a0 hw [] i2 d b467 b531 k467 k531 e0 (4652016104934211584 : UInt64) (4652024901027233792 : UInt64) (4652033697120256000 : UInt64) (4652042493213278208 : UInt64) (4652051289306300416 : UInt64) (10 : Int32) (11 : Int32) (12 : Int32) (13 : Int32) (14 : Int32) (15 : Int32) h599 n0 z608 f606 f600 ne534 ge470 ge535 (own_cg hd nn0 hc610 .g)) (own_hw hw 12 rfl) (own_hw hw 11 rfl) (by decide) e599 (by rw [hml]; rfl) [(.int i2), (.double d), (.int (0 : Int32)), (.int (1 : Int32)), (.ref b467), (.ref b531)] 0 (by decide) (Nat.le_of_eq rfl) (by decide) (by decide) (lenOf own_pd2 rfl) rfl rfl 464 rfl (hb hby at_461) fun v611 T611 Lc611 X611 hQ611 => ?_
          obtain ⟨rfl, Nq611, Kq611, fu611, fw611⟩ := hQ611
          have N612 := Fr.app N609 Nq611
          have f613 := f601.keep Kq611
          have f614 := f602.keep Kq611
          have f615 := f603.keep Kq611 (ninS ne469 (ninS ne533 nin0))
          have f616 := f604.keep Kq611 (ninS ne468 (ninS ne532 nin0))
          have f617 := f605.keep Kq611
          have f619 := f607.keep Kq611
          have z621 := Nat.le_trans z608 Kq611.1
          show own_Go _ _ _ _ _ (State.setTop _ (mkF _ 464 _ [(.int (1 : Int32))]))
          refine own_istore X611 hx 466 rfl (hb hby at_464) #[.val (.int i0), .val (.int i1), .val (.int i2), .val (.double (9218868437227405312 : UInt64)), .second, .val (.int (1 : Int32)), .val (.int (0 : Int32)), .val (.int (own_k i0)), .val (.int f8), .val (.int (own_a0 i1)), .val (.int (own_a1 i1)), .val (.int (own_a2 i1)), .val (.double d), .second, .val (.ref b365), .val (.ref b369), .val (.int (0 : Int32)), .val (.ref b467), .val (.ref b531), .val (.int (1 : Int32)), .val (.int (0 : Int32)), .val (.int (1 : Int32))] rfl ?_
          refine own_iload X611 hx 468 rfl (hb hby at_466) rfl ?_
          refine own_iload X611 hx 470 rfl (hb hby at_468) rfl ?_
          refine own_icmpNo X611 hx 473 rfl (hb hby at_470) (by decide) ?_
          refine own_iconst X611 hx 474 rfl (hb hby at_473) (0 : Int32) rfl ?_
          refine own_iload X611 hx 476 rfl (hb hby at_474) rfl ?_
          refine own_iload X611 hx 478 rfl (hb hby at_476) rfl ?_
          refine own_iload X611 hx 480 rfl (hb hby at_478) rfl ?_
          refine own_iload X611 hx 482 rfl (hb hby at_480) rfl ?_
          refine own_dload X611 hx 484 rfl (hb hby at_482) rfl ?_
          refine own_iloadN X611 hx 485 rfl (hb hby at_484) rfl ?_
          refine own_aload X611 hx 487 rfl (hb hby at_485) rfl rfl ?_
          refine own_aload X611 hx 489 rfl (hb hby at_487) rfl rfl ?_
          refine own_aload X611 hx 491 rfl (hb hby at_489) rfl rfl ?_
          refine own_aload X611 hx 493 rfl (hb hby at_491) rfl rfl ?_
          refine own_callS X611 hx hZ (y := (⟨"com/example/outpost/outpost/model/DistancesKeepNearerPinLaw", "same", "(IIIIZDI[D[I[D[I)Z"⟩ : MethodName)) hown (own_hw hw 13 rfl) (own_hw hw 14 rfl) (by decide) (rm_same_C l Z a0 hw [] (0 : Int32) (0 : Int32) (1 : Int32) (0 : Int32) d i2 b365 b369 b467 b531 k365 k369 k467 k531 [(.double e0), (.double (4652016104934211584 : UInt64)), (.double (4652024901027233792 : UInt64)), (.double (4652033697120256000 : UInt64)), (.double (4652042493213278208 : UInt64)), (.double (4652051289306300416 : UInt64))] [(.int (10 : Int32)), (.int (11 : Int32)), (.int (12 : Int32)), (.int (13 : Int32)), (.int (14 : Int32)), (.int (15 : Int32))] [(.double d), (.double (4652016104934211584 : UInt64)), (.double (4652024901027233792 : UInt64)), (.double (4652033697120256000 : UInt64)), (.double (4652042493213278208 : UInt64)), (.double (4652051289306300416 : UInt64))] [(.int i2), (.int (11 : Int32)), (.int (12 : Int32)), (.int (13 : Int32)), (.int (14 : Int32)), (.int (15 : Int32))] d i2 T611.heap n0 z621 f616 f615 fu611 fw611 (by decide) (by decide) (by decide) (by decide) rfl rfl (by decide) rfl rfl (own_self hd)) (own_hw hw 16 rfl) (own_hw hw 15 rfl) (by decide) rfl (by rw [hml]; rfl) [(.int (0 : Int32)), (.int (0 : Int32)), (.int (1 : Int32)), (.int (0 : Int32)), (.int (1 : Int32)), (.double d), (.int i2), (.ref b365), (.ref b369), (.ref b467), (.ref b531)] 0 (by decide) (Nat.le_of_eq rfl) (by decide) (by decide) (lenOf own_pd3 rfl) rfl rfl 496 rfl (hb hby at_493) fun v622 T622 Lc622 X622 hQ622 => ?_
          obtain ⟨rfl, Nq622, e622⟩ := hQ622
          have N623 := Fr.app N612 Nq622
          show own_Go _ _ _ _ _ (State.setTop _ (mkF _ 496 _ [(.int (1 : Int32))]))
          refine own_ifNo X622 hx 499 rfl (hb hby at_496) (by decide) ?_
          refine own_iconst X622 hx 500 rfl (hb hby at_499) (1 : Int32) rfl ?_
          refine own_iload X622 hx 502 rfl (hb hby at_500) rfl ?_
          refine own_iload X622 hx 504 rfl (hb hby at_502) rfl ?_
          refine own_iload X622 hx 506 rfl (hb hby at_504) rfl ?_
          refine own_iload X622 hx 508 rfl (hb hby at_506) rfl ?_
          refine own_dload X622 hx 510 rfl (hb hby at_508) rfl ?_
          refine own_iloadN X622 hx 511 rfl (hb hby at_510) rfl ?_
          refine own_aload X622 hx 513 rfl (hb hby at_511) rfl rfl ?_
          refine own_aload X622 hx 515 rfl (hb hby at_513) rfl rfl ?_
          refine own_aload X622 hx 517 rfl (hb hby at_515) rfl rfl ?_
          refine own_aload X622 hx 519 rfl (hb hby at_517) rfl rfl ?_
          refine own_callS X622 hx hZ (y := (⟨"com/example/outpost/outpost/model/DistancesKeepNearerPinLaw", "same", "(IIIIZDI[D[I[D[I)Z"⟩ : MethodName)) hown (own_hw hw 13 rfl) (own_hw hw 14 rfl) (by decide) (rm_same_A3 l Z a0 hw [] (1 : Int32) (0 : Int32) (1 : Int32) (0 : Int32) d i2 b365 b369 b467 b531 k365 k369 k467 k531 [(.double e0), (.double (4652016104934211584 : UInt64)), (.double (4652024901027233792 : UInt64)), (.double (4652033697120256000 : UInt64)), (.double (4652042493213278208 : UInt64)), (.double (4652051289306300416 : UInt64))] [(.int (10 : Int32)), (.int (11 : Int32)), (.int (12 : Int32)), (.int (13 : Int32)), (.int (14 : Int32)), (.int (15 : Int32))] [(.double d), (.double (4652016104934211584 : UInt64)), (.double (4652024901027233792 : UInt64)), (.double (4652033697120256000 : UInt64)), (.double (4652042493213278208 : UInt64)), (.double (4652051289306300416 : UInt64))] [(.int i2), (.int (11 : Int32)), (.int (12 : Int32)), (.int (13 : Int32)), (.int (14 : Int32)), (.int (15 : Int32))] (4652016104934211584 : UInt64) (11 : Int32) T611.heap n0 z621 f616 f615 fu611 fw611 (by decide) (by decide) (by decide) rfl rfl (by decide) rfl rfl (own_self own_cst.2.1)) (own_hw hw 16 rfl) (own_hw hw 15 rfl) (by decide) e622 (by rw [hml]; rfl) [(.int (1 : Int32)), (.int (0 : Int32)), (.int (1 : Int32)), (.int (0 : Int32)), (.int (1 : Int32)), (.double d), (.int i2), (.ref b365), (.ref b369), (.ref b467), (.ref b531)] 0 (by decide) (Nat.le_of_eq rfl) (by decide) (by decide) (lenOf own_pd3 rfl) rfl rfl 522 rfl (hb hby at_519) fun v624 T624 Lc624 X624 hQ624 => ?_
          obtain ⟨rfl, Nq624, e624⟩ := hQ624
          have N625 := Fr.app N623 Nq624
          show own_Go _ _ _ _ _ (State.setTop _ (mkF _ 522 _ [(.int (1 : Int32))]))
          refine own_ifNo X624 hx 525 rfl (hb hby at_522) (by decide) ?_
          refine own_iconst X624 hx 526 rfl (hb hby at_525) (2 : Int32) rfl ?_
          refine own_iload X624 hx 528 rfl (hb hby at_526) rfl ?_
          refine own_iload X624 hx 530 rfl (hb hby at_528) rfl ?_
          refine own_iload X624 hx 532 rfl (hb hby at_530) rfl ?_
          refine own_iload X624 hx 534 rfl (hb hby at_532) rfl ?_
          refine own_dload X624 hx 536 rfl (hb hby at_534) rfl ?_
          refine own_iloadN X624 hx 537 rfl (hb hby at_536) rfl ?_
          refine own_aload X624 hx 539 rfl (hb hby at_537) rfl rfl ?_
          refine own_aload X624 hx 541 rfl (hb hby at_539) rfl rfl ?_
          refine own_aload X624 hx 543 rfl (hb hby at_541) rfl rfl ?_
          refine own_aload X624 hx 545 rfl (hb hby at_543) rfl rfl ?_
          refine own_callS X624 hx hZ (y := (⟨"com/example/outpost/outpost/model/DistancesKeepNearerPinLaw", "same", "(IIIIZDI[D[I[D[I)Z"⟩ : MethodName)) hown (own_hw hw 13 rfl) (own_hw hw 14 rfl) (by decide) (rm_same_A3 l Z a0 hw [] (2 : Int32) (0 : Int32) (1 : Int32) (0 : Int32) d i2 b365 b369 b467 b531 k365 k369 k467 k531 [(.double e0), (.double (4652016104934211584 : UInt64)), (.double (4652024901027233792 : UInt64)), (.double (4652033697120256000 : UInt64)), (.double (4652042493213278208 : UInt64)), (.double (4652051289306300416 : UInt64))] [(.int (10 : Int32)), (.int (11 : Int32)), (.int (12 : Int32)), (.int (13 : Int32)), (.int (14 : Int32)), (.int (15 : Int32))] [(.double d), (.double (4652016104934211584 : UInt64)), (.double (4652024901027233792 : UInt64)), (.double (4652033697120256000 : UInt64)), (.double (4652042493213278208 : UInt64)), (.double (4652051289306300416 : UInt64))] [(.int i2), (.int (11 : Int32)), (.int (12 : Int32)), (.int (13 : Int32)), (.int (14 : Int32)), (.int (15 : Int32))] (4652024901027233792 : UInt64) (12 : Int32) T611.heap n0 z621 f616 f615 fu611 fw611 (by decide) (by decide) (by decide) rfl rfl (by decide) rfl rfl (own_self own_cst.2.2.1)) (own_hw hw 16 rfl) (own_hw hw 15 rfl) (by decide) e624 (by rw [hml]; rfl) [(.int (2 : Int32)), (.int (0 : Int32)), (.int (1 : Int32)), (.int (0 : Int32)), (.int (1 : Int32)), (.double d), (.int i2), (.ref b365), (.ref b369), (.ref b467), (.ref b531)] 0 (by decide) (Nat.le_of_eq rfl) (by decide) (by decide) (lenOf own_pd3 rfl) rfl rfl 548 rfl (hb hby at_545) fun v626 T626 Lc626 X626 hQ626 => ?_
          obtain ⟨rfl, Nq626, e626⟩ := hQ626
          have N627 := Fr.app N625 Nq626
          show own_Go _ _ _ _ _ (State.setTop _ (mkF _ 548 _ [(.int (1 : Int32))]))
          refine own_ifNo X626 hx 551 rfl (hb hby at_548) (by decide) ?_
          refine own_iconst X626 hx 552 rfl (hb hby at_551) (3 : Int32) rfl ?_
          refine own_iload X626 hx 554 rfl (hb hby at_552) rfl ?_
          refine own_iload X626 hx 556 rfl (hb hby at_554) rfl ?_
          refine own_iload X626 hx 558 rfl (hb hby at_556) rfl ?_
          refine own_iload X626 hx 560 rfl (hb hby at_558) rfl ?_
          refine own_dload X626 hx 562 rfl (hb hby at_560) rfl ?_
          refine own_iloadN X626 hx 563 rfl (hb hby at_562) rfl ?_
          refine own_aload X626 hx 565 rfl (hb hby at_563) rfl rfl ?_
          refine own_aload X626 hx 567 rfl (hb hby at_565) rfl rfl ?_
          refine own_aload X626 hx 569 rfl (hb hby at_567) rfl rfl ?_
          refine own_aload X626 hx 571 rfl (hb hby at_569) rfl rfl ?_
          refine own_callS X626 hx hZ (y := (⟨"com/example/outpost/outpost/model/DistancesKeepNearerPinLaw", "same", "(IIIIZDI[D[I[D[I)Z"⟩ : MethodName)) hown (own_hw hw 13 rfl) (own_hw hw 14 rfl) (by decide) (rm_same_A3 l Z a0 hw [] (3 : Int32) (0 : Int32) (1 : Int32) (0 : Int32) d i2 b365 b369 b467 b531 k365 k369 k467 k531 [(.double e0), (.double (4652016104934211584 : UInt64)), (.double (4652024901027233792 : UInt64)), (.double (4652033697120256000 : UInt64)), (.double (4652042493213278208 : UInt64)), (.double (4652051289306300416 : UInt64))] [(.int (10 : Int32)), (.int (11 : Int32)), (.int (12 : Int32)), (.int (13 : Int32)), (.int (14 : Int32)), (.int (15 : Int32))] [(.double d), (.double (4652016104934211584 : UInt64)), (.double (4652024901027233792 : UInt64)), (.double (4652033697120256000 : UInt64)), (.double (4652042493213278208 : UInt64)), (.double (4652051289306300416 : UInt64))] [(.int i2), (.int (11 : Int32)), (.int (12 : Int32)), (.int (13 : Int32)), (.int (14 : Int32)), (.int (15 : Int32))] (4652033697120256000 : UInt64) (13 : Int32) T611.heap n0 z621 f616 f615 fu611 fw611 (by decide) (by decide) (by decide) rfl rfl (by decide) rfl rfl (own_self own_cst.2.2.2.1)) (own_hw hw 16 rfl) (own_hw hw 15 rfl) (by decide) e626 (by rw [hml]; rfl) [(.int (3 : Int32)), (.int (0 : Int32)), (.int (1 : Int32)), (.int (0 : Int32)), (.int (1 : Int32)), (.double d), (.int i2), (.ref b365), (.ref b369), (.ref b467), (.ref b531)] 0 (by decide) (Nat.le_of_eq rfl) (by decide) (by decide) (lenOf own_pd3 rfl) rfl rfl 574 rfl (hb hby at_571) fun v628 T628 Lc628 X628 hQ628 => ?_
          obtain ⟨rfl, Nq628, e628⟩ := hQ628
          have N629 := Fr.app N627 Nq628
          show own_Go _ _ _ _ _ (State.setTop _ (mkF _ 574 _ [(.int (1 : Int32))]))
          refine own_ifNo X628 hx 577 rfl (hb hby at_574) (by decide) ?_
          refine own_iconst X628 hx 578 rfl (hb hby at_577) (4 : Int32) rfl ?_
          refine own_iload X628 hx 580 rfl (hb hby at_578) rfl ?_
          refine own_iload X628 hx 582 rfl (hb hby at_580) rfl ?_
          refine own_iload X628 hx 584 rfl (hb hby at_582) rfl ?_
          refine own_iload X628 hx 586 rfl (hb hby at_584) rfl ?_
          refine own_dload X628 hx 588 rfl (hb hby at_586) rfl ?_
          refine own_iloadN X628 hx 589 rfl (hb hby at_588) rfl ?_
          refine own_aload X628 hx 591 rfl (hb hby at_589) rfl rfl ?_
          refine own_aload X628 hx 593 rfl (hb hby at_591) rfl rfl ?_
          refine own_aload X628 hx 595 rfl (hb hby at_593) rfl rfl ?_
          refine own_aload X628 hx 597 rfl (hb hby at_595) rfl rfl ?_
          refine own_callS X628 hx hZ (y := (⟨"com/example/outpost/outpost/model/DistancesKeepNearerPinLaw", "same", "(IIIIZDI[D[I[D[I)Z"⟩ : MethodName)) hown (own_hw hw 13 rfl) (own_hw hw 14 rfl) (by decide) (rm_same_A3 l Z a0 hw [] (4 : Int32) (0 : Int32) (1 : Int32) (0 : Int32) d i2 b365 b369 b467 b531 k365 k369 k467 k531 [(.double e0), (.double (4652016104934211584 : UInt64)), (.double (4652024901027233792 : UInt64)), (.double (4652033697120256000 : UInt64)), (.double (4652042493213278208 : UInt64)), (.double (4652051289306300416 : UInt64))] [(.int (10 : Int32)), (.int (11 : Int32)), (.int (12 : Int32)), (.int (13 : Int32)), (.int (14 : Int32)), (.int (15 : Int32))] [(.double d), (.double (4652016104934211584 : UInt64)), (.double (4652024901027233792 : UInt64)), (.double (4652033697120256000 : UInt64)), (.double (4652042493213278208 : UInt64)), (.double (4652051289306300416 : UInt64))] [(.int i2), (.int (11 : Int32)), (.int (12 : Int32)), (.int (13 : Int32)), (.int (14 : Int32)), (.int (15 : Int32))] (4652042493213278208 : UInt64) (14 : Int32) T611.heap n0 z621 f616 f615 fu611 fw611 (by decide) (by decide) (by decide) rfl rfl (by decide) rfl rfl (own_self own_cst.2.2.2.2.1)) (own_hw hw 16 rfl) (own_hw hw 15 rfl) (by decide) e628 (by rw [hml]; rfl) [(.int (4 : Int32)), (.int (0 : Int32)), (.int (1 : Int32)), (.int (0 : Int32)), (.int (1 : Int32)), (.double d), (.int i2), (.ref b365), (.ref b369), (.ref b467), (.ref b531)] 0 (by decide) (Nat.le_of_eq rfl) (by decide) (by decide) (lenOf own_pd3 rfl) rfl rfl 600 rfl (hb hby at_597) fun v630 T630 Lc630 X630 hQ630 => ?_
          obtain ⟨rfl, Nq630, e630⟩ := hQ630
          have N631 := Fr.app N629 Nq630
          show own_Go _ _ _ _ _ (State.setTop _ (mkF _ 600 _ [(.int (1 : Int32))]))
          refine own_ifNo X630 hx 603 rfl (hb hby at_600) (by decide) ?_
          refine own_iconst X630 hx 604 rfl (hb hby at_603) (5 : Int32) rfl ?_
          refine own_iload X630 hx 606 rfl (hb hby at_604) rfl ?_
          refine own_iload X630 hx 608 rfl (hb hby at_606) rfl ?_
          refine own_iload X630 hx 610 rfl (hb hby at_608) rfl ?_
          refine own_iload X630 hx 612 rfl (hb hby at_610) rfl ?_
          refine own_dload X630 hx 614 rfl (hb hby at_612) rfl ?_
          refine own_iloadN X630 hx 615 rfl (hb hby at_614) rfl ?_
          refine own_aload X630 hx 617 rfl (hb hby at_615) rfl rfl ?_
          refine own_aload X630 hx 619 rfl (hb hby at_617) rfl rfl ?_
          refine own_aload X630 hx 621 rfl (hb hby at_619) rfl rfl ?_
          refine own_aload X630 hx 623 rfl (hb hby at_621) rfl rfl ?_
          refine own_callS X630 hx hZ (y := (⟨"com/example/outpost/outpost/model/DistancesKeepNearerPinLaw", "same", "(IIIIZDI[D[I[D[I)Z"⟩ : MethodName)) hown (own_hw hw 13 rfl) (own_hw hw 14 rfl) (by decide) (rm_same_A3 l Z a0 hw [] (5 : Int32) (0 : Int32) (1 : Int32) (0 : Int32) d i2 b365 b369 b467 b531 k365 k369 k467 k531 [(.double e0), (.double (4652016104934211584 : UInt64)), (.double (4652024901027233792 : UInt64)), (.double (4652033697120256000 : UInt64)), (.double (4652042493213278208 : UInt64)), (.double (4652051289306300416 : UInt64))] [(.int (10 : Int32)), (.int (11 : Int32)), (.int (12 : Int32)), (.int (13 : Int32)), (.int (14 : Int32)), (.int (15 : Int32))] [(.double d), (.double (4652016104934211584 : UInt64)), (.double (4652024901027233792 : UInt64)), (.double (4652033697120256000 : UInt64)), (.double (4652042493213278208 : UInt64)), (.double (4652051289306300416 : UInt64))] [(.int i2), (.int (11 : Int32)), (.int (12 : Int32)), (.int (13 : Int32)), (.int (14 : Int32)), (.int (15 : Int32))] (4652051289306300416 : UInt64) (15 : Int32) T611.heap n0 z621 f616 f615 fu611 fw611 (by decide) (by decide) (by decide) rfl rfl (by decide) rfl rfl (own_self own_cst.2.2.2.2.2)) (own_hw hw 16 rfl) (own_hw hw 15 rfl) (by decide) e630 (by rw [hml]; rfl) [(.int (5 : Int32)), (.int (0 : Int32)), (.int (1 : Int32)), (.int (0 : Int32)), (.int (1 : Int32)), (.double d), (.int i2), (.ref b365), (.ref b369), (.ref b467), (.ref b531)] 0 (by decide) (Nat.le_of_eq rfl) (by decide) (by decide) (lenOf own_pd3 rfl) rfl rfl 626 rfl (hb hby at_623) fun v632 T632 Lc632 X632 hQ632 => ?_
          obtain ⟨rfl, Nq632, e632⟩ := hQ632
          have N633 := Fr.app N631 Nq632
          show own_Go _ _ _ _ _ (State.setTop _ (mkF _ 626 _ [(.int (1 : Int32))]))
          refine own_ifNo X632 hx 629 rfl (hb hby at_626) (by decide) ?_
          refine own_iconst X632 hx 630 rfl (hb hby at_629) (1 : Int32) rfl ?_
          refine own_goto X632 hx 634 (hb hby at_630) (by decide) rfl ?_
          refine own_ret X632 (some (.int (1 : Int32))) (fun h => by rw [Bd.returns] at h; cases h) Bd.notSynchronized (by decide) (by decide) ?_ (fun fs hr => retN X632 hx (t := .boolean) Bd.returns (by simp) (hb hby at_634) hr)
          show Q_rm0 Z i0 i1 i2 h0 n0 _ T632.heap _
          rw [e632]
          exact ⟨rfl, N633⟩
        ·
          refine own_dcmp X599 hx 379 rfl (hb hby at_378) _ rfl ?_
          refine own_ifYes X599 hx 386 (hb hby at_379) ((if0 _ _).trans (flt (own_cmp_ge hd nn0 (Int.not_lt.mp hc610) .g)).2.1) (by decide) rfl ?_
          refine own_iconst X599 hx 387 rfl (hb hby at_386) (0 : Int32) rfl ?_
          refine own_istore X599 hx 389 rfl (hb hby at_387) #[.val (.int i0), .val (.int i1), .val (.int i2), .val (.double (9218868437227405312 : UInt64)), .second, .val (.int (1 : Int32)), .val (.int (0 : Int32)), .val (.int (own_k i0)), .val (.int f8), .val (.int (own_a0 i1)), .val (.int (own_a1 i1)), .val (.int (own_a2 i1)), .val (.double d), .second, .val (.ref b365), .val (.ref b369), .val (.int (0 : Int32)), .val (.ref b467), .val (.ref b531), .val (.int (0 : Int32)), .unset, .unset] rfl ?_
          refine own_iconst X599 hx 390 rfl (hb hby at_389) (0 : Int32) rfl ?_
          refine own_istore X599 hx 392 rfl (hb hby at_390) #[.val (.int i0), .val (.int i1), .val (.int i2), .val (.double (9218868437227405312 : UInt64)), .second, .val (.int (1 : Int32)), .val (.int (0 : Int32)), .val (.int (own_k i0)), .val (.int f8), .val (.int (own_a0 i1)), .val (.int (own_a1 i1)), .val (.int (own_a2 i1)), .val (.double d), .second, .val (.ref b365), .val (.ref b369), .val (.int (0 : Int32)), .val (.ref b467), .val (.ref b531), .val (.int (0 : Int32)), .val (.int (0 : Int32)), .unset] rfl ?_
          refine own_aload X599 hx 394 rfl (hb hby at_392) rfl rfl ?_
          refine own_iload X599 hx 396 rfl (hb hby at_394) rfl ?_
          refine own_ldD X599 hx hZ e599 f604 ⟨by decide, by decide⟩ e0 rfl 397 rfl (hb hby at_396) ?_
          refine own_dload X599 hx 399 rfl (hb hby at_397) rfl ?_
          refine own_dcmp X599 hx 400 rfl (hb hby at_399) _ rfl ?_
          refine own_ifNo X599 hx 403 rfl (hb hby at_400) ((if0 _ _).trans (flt (own_cmp_le nn0 hd (Int.not_lt.mp hc610) .g)).2.2.1) ?_
          refine own_iinc X599 hx 406 rfl (hb hby at_403) rfl #[.val (.int i0), .val (.int i1), .val (.int i2), .val (.double (9218868437227405312 : UInt64)), .second, .val (.int (1 : Int32)), .val (.int (0 : Int32)), .val (.int (own_k i0)), .val (.int f8), .val (.int (own_a0 i1)), .val (.int (own_a1 i1)), .val (.int (own_a2 i1)), .val (.double d), .second, .val (.ref b365), .val (.ref b369), .val (.int (0 : Int32)), .val (.ref b467), .val (.ref b531), .val (.int (0 : Int32)), .val (.int (1 : Int32)), .unset] rfl ?_
          refine own_iload X599 hx 408 rfl (hb hby at_406) rfl ?_
          refine own_iconst X599 hx 409 rfl (hb hby at_408) (2 : Int32) rfl ?_
          refine own_icmpYes X599 hx 428 (hb hby at_409) (by decide) (by decide) rfl ?_
          refine own_iload X599 hx 430 rfl (hb hby at_428) rfl ?_
          refine own_iconst X599 hx 431 rfl (hb hby at_430) (3 : Int32) rfl ?_
          refine own_icmpYes X599 hx 450 (hb hby at_431) (by decide) (by decide) rfl ?_
          refine own_iloadN X599 hx 451 rfl (hb hby at_450) rfl ?_
          refine own_dload X599 hx 453 rfl (hb hby at_451) rfl ?_
          refine own_iload X599 hx 455 rfl (hb hby at_453) rfl ?_
          refine own_iload X599 hx 457 rfl (hb hby at_455) rfl ?_
          refine own_aload X599 hx 459 rfl (hb hby at_457) rfl rfl ?_
          refine own_aload X599 hx 461 rfl (hb hby at_459) rfl rfl ?_
          refine own_callS X599 hx hZ (y := (⟨"com/example/outpost/outpost/model/Distances", "keepNearer", "(IDII[D[I)Z"⟩ : MethodName)) hown (own_hw hw 9 rfl) (own_hw hw 10 rfl) (by decide) (rm_keep_1_0_n l Z a0 hw [] i2 d b467 b531 k467 k531 e0 (4652016104934211584 : UInt64) (4652024901027233792 : UInt64) (4652033697120256000 : UInt64) (4652042493213278208 : UInt64) (4652051289306300416 : UInt64) (10 : Int32) (11 : Int32) (12 : Int32) (13 : Int32) (14 : Int32) (15 : Int32) h599 n0 z608 f606 f600 ne534 ge470 ge535 (own_cmp_ge hd nn0 (Int.not_lt.mp hc610) .g)) (own_hw hw 12 rfl) (own_hw hw 11 rfl) (by decide) e599 (by rw [hml]; rfl) [(.int i2), (.double d), (.int (0 : Int32)), (.int (1 : Int32)), (.ref b467), (.ref b531)] 0 (by decide) (Nat.le_of_eq rfl) (by decide) (by decide) (lenOf own_pd2 rfl) rfl rfl 464 rfl (hb hby at_461) fun v634 T634 Lc634 X634 hQ634 => ?_
          obtain ⟨rfl, Nq634, Kq634, fu634, fw634⟩ := hQ634
          have N635 := Fr.app N609 Nq634
          have f636 := f601.keep Kq634
          have f637 := f602.keep Kq634
          have f638 := f603.keep Kq634 (ninS ne469 (ninS ne533 nin0))
          have f639 := f604.keep Kq634 (ninS ne468 (ninS ne532 nin0))
          have f640 := f605.keep Kq634
          have f642 := f607.keep Kq634
          have z644 := Nat.le_trans z608 Kq634.1
          show own_Go _ _ _ _ _ (State.setTop _ (mkF _ 464 _ [(.int (0 : Int32))]))
          refine own_istore X634 hx 466 rfl (hb hby at_464) #[.val (.int i0), .val (.int i1), .val (.int i2), .val (.double (9218868437227405312 : UInt64)), .second, .val (.int (1 : Int32)), .val (.int (0 : Int32)), .val (.int (own_k i0)), .val (.int f8), .val (.int (own_a0 i1)), .val (.int (own_a1 i1)), .val (.int (own_a2 i1)), .val (.double d), .second, .val (.ref b365), .val (.ref b369), .val (.int (0 : Int32)), .val (.ref b467), .val (.ref b531), .val (.int (0 : Int32)), .val (.int (1 : Int32)), .val (.int (0 : Int32))] rfl ?_
          refine own_iload X634 hx 468 rfl (hb hby at_466) rfl ?_
          refine own_iload X634 hx 470 rfl (hb hby at_468) rfl ?_
          refine own_icmpNo X634 hx 473 rfl (hb hby at_470) (by decide) ?_
          refine own_iconst X634 hx 474 rfl (hb hby at_473) (0 : Int32) rfl ?_
          refine own_iload X634 hx 476 rfl (hb hby at_474) rfl ?_
          refine own_iload X634 hx 478 rfl (hb hby at_476) rfl ?_
          refine own_iload X634 hx 480 rfl (hb hby at_478) rfl ?_
          refine own_iload X634 hx 482 rfl (hb hby at_480) rfl ?_
          refine own_dload X634 hx 484 rfl (hb hby at_482) rfl ?_
          refine own_iloadN X634 hx 485 rfl (hb hby at_484) rfl ?_
          refine own_aload X634 hx 487 rfl (hb hby at_485) rfl rfl ?_
          refine own_aload X634 hx 489 rfl (hb hby at_487) rfl rfl ?_
          refine own_aload X634 hx 491 rfl (hb hby at_489) rfl rfl ?_
          refine own_aload X634 hx 493 rfl (hb hby at_491) rfl rfl ?_
          refine own_callS X634 hx hZ (y := (⟨"com/example/outpost/outpost/model/DistancesKeepNearerPinLaw", "same", "(IIIIZDI[D[I[D[I)Z"⟩ : MethodName)) hown (own_hw hw 13 rfl) (own_hw hw 14 rfl) (by decide) (rm_same_A1 l Z a0 hw [] (0 : Int32) (0 : Int32) (1 : Int32) (1 : Int32) d i2 b365 b369 b467 b531 k365 k369 k467 k531 [(.double e0), (.double (4652016104934211584 : UInt64)), (.double (4652024901027233792 : UInt64)), (.double (4652033697120256000 : UInt64)), (.double (4652042493213278208 : UInt64)), (.double (4652051289306300416 : UInt64))] [(.int (10 : Int32)), (.int (11 : Int32)), (.int (12 : Int32)), (.int (13 : Int32)), (.int (14 : Int32)), (.int (15 : Int32))] [(.double e0), (.double (4652016104934211584 : UInt64)), (.double (4652024901027233792 : UInt64)), (.double (4652033697120256000 : UInt64)), (.double (4652042493213278208 : UInt64)), (.double (4652051289306300416 : UInt64))] [(.int (10 : Int32)), (.int (11 : Int32)), (.int (12 : Int32)), (.int (13 : Int32)), (.int (14 : Int32)), (.int (15 : Int32))] e0 (10 : Int32) T634.heap n0 z644 f639 f638 fu634 fw634 (by decide) rfl rfl (by decide) rfl rfl (own_self nn0)) (own_hw hw 16 rfl) (own_hw hw 15 rfl) (by decide) rfl (by rw [hml]; rfl) [(.int (0 : Int32)), (.int (0 : Int32)), (.int (1 : Int32)), (.int (1 : Int32)), (.int (0 : Int32)), (.double d), (.int i2), (.ref b365), (.ref b369), (.ref b467), (.ref b531)] 0 (by decide) (Nat.le_of_eq rfl) (by decide) (by decide) (lenOf own_pd3 rfl) rfl rfl 496 rfl (hb hby at_493) fun v645 T645 Lc645 X645 hQ645 => ?_
          obtain ⟨rfl, Nq645, e645⟩ := hQ645
          have N646 := Fr.app N635 Nq645
          show own_Go _ _ _ _ _ (State.setTop _ (mkF _ 496 _ [(.int (1 : Int32))]))
          refine own_ifNo X645 hx 499 rfl (hb hby at_496) (by decide) ?_
          refine own_iconst X645 hx 500 rfl (hb hby at_499) (1 : Int32) rfl ?_
          refine own_iload X645 hx 502 rfl (hb hby at_500) rfl ?_
          refine own_iload X645 hx 504 rfl (hb hby at_502) rfl ?_
          refine own_iload X645 hx 506 rfl (hb hby at_504) rfl ?_
          refine own_iload X645 hx 508 rfl (hb hby at_506) rfl ?_
          refine own_dload X645 hx 510 rfl (hb hby at_508) rfl ?_
          refine own_iloadN X645 hx 511 rfl (hb hby at_510) rfl ?_
          refine own_aload X645 hx 513 rfl (hb hby at_511) rfl rfl ?_
          refine own_aload X645 hx 515 rfl (hb hby at_513) rfl rfl ?_
          refine own_aload X645 hx 517 rfl (hb hby at_515) rfl rfl ?_
          refine own_aload X645 hx 519 rfl (hb hby at_517) rfl rfl ?_
          refine own_callS X645 hx hZ (y := (⟨"com/example/outpost/outpost/model/DistancesKeepNearerPinLaw", "same", "(IIIIZDI[D[I[D[I)Z"⟩ : MethodName)) hown (own_hw hw 13 rfl) (own_hw hw 14 rfl) (by decide) (rm_same_A1 l Z a0 hw [] (1 : Int32) (0 : Int32) (1 : Int32) (1 : Int32) d i2 b365 b369 b467 b531 k365 k369 k467 k531 [(.double e0), (.double (4652016104934211584 : UInt64)), (.double (4652024901027233792 : UInt64)), (.double (4652033697120256000 : UInt64)), (.double (4652042493213278208 : UInt64)), (.double (4652051289306300416 : UInt64))] [(.int (10 : Int32)), (.int (11 : Int32)), (.int (12 : Int32)), (.int (13 : Int32)), (.int (14 : Int32)), (.int (15 : Int32))] [(.double e0), (.double (4652016104934211584 : UInt64)), (.double (4652024901027233792 : UInt64)), (.double (4652033697120256000 : UInt64)), (.double (4652042493213278208 : UInt64)), (.double (4652051289306300416 : UInt64))] [(.int (10 : Int32)), (.int (11 : Int32)), (.int (12 : Int32)), (.int (13 : Int32)), (.int (14 : Int32)), (.int (15 : Int32))] (4652016104934211584 : UInt64) (11 : Int32) T634.heap n0 z644 f639 f638 fu634 fw634 (by decide) rfl rfl (by decide) rfl rfl (own_self own_cst.2.1)) (own_hw hw 16 rfl) (own_hw hw 15 rfl) (by decide) e645 (by rw [hml]; rfl) [(.int (1 : Int32)), (.int (0 : Int32)), (.int (1 : Int32)), (.int (1 : Int32)), (.int (0 : Int32)), (.double d), (.int i2), (.ref b365), (.ref b369), (.ref b467), (.ref b531)] 0 (by decide) (Nat.le_of_eq rfl) (by decide) (by decide) (lenOf own_pd3 rfl) rfl rfl 522 rfl (hb hby at_519) fun v647 T647 Lc647 X647 hQ647 => ?_
          obtain ⟨rfl, Nq647, e647⟩ := hQ647
          have N648 := Fr.app N646 Nq647
          show own_Go _ _ _ _ _ (State.setTop _ (mkF _ 522 _ [(.int (1 : Int32))]))
          refine own_ifNo X647 hx 525 rfl (hb hby at_522) (by decide) ?_
          refine own_iconst X647 hx 526 rfl (hb hby at_525) (2 : Int32) rfl ?_
          refine own_iload X647 hx 528 rfl (hb hby at_526) rfl ?_
          refine own_iload X647 hx 530 rfl (hb hby at_528) rfl ?_
          refine own_iload X647 hx 532 rfl (hb hby at_530) rfl ?_
          refine own_iload X647 hx 534 rfl (hb hby at_532) rfl ?_
          refine own_dload X647 hx 536 rfl (hb hby at_534) rfl ?_
          refine own_iloadN X647 hx 537 rfl (hb hby at_536) rfl ?_
          refine own_aload X647 hx 539 rfl (hb hby at_537) rfl rfl ?_
          refine own_aload X647 hx 541 rfl (hb hby at_539) rfl rfl ?_
          refine own_aload X647 hx 543 rfl (hb hby at_541) rfl rfl ?_
          refine own_aload X647 hx 545 rfl (hb hby at_543) rfl rfl ?_
          refine own_callS X647 hx hZ (y := (⟨"com/example/outpost/outpost/model/DistancesKeepNearerPinLaw", "same", "(IIIIZDI[D[I[D[I)Z"⟩ : MethodName)) hown (own_hw hw 13 rfl) (own_hw hw 14 rfl) (by decide) (rm_same_A1 l Z a0 hw [] (2 : Int32) (0 : Int32) (1 : Int32) (1 : Int32) d i2 b365 b369 b467 b531 k365 k369 k467 k531 [(.double e0), (.double (4652016104934211584 : UInt64)), (.double (4652024901027233792 : UInt64)), (.double (4652033697120256000 : UInt64)), (.double (4652042493213278208 : UInt64)), (.double (4652051289306300416 : UInt64))] [(.int (10 : Int32)), (.int (11 : Int32)), (.int (12 : Int32)), (.int (13 : Int32)), (.int (14 : Int32)), (.int (15 : Int32))] [(.double e0), (.double (4652016104934211584 : UInt64)), (.double (4652024901027233792 : UInt64)), (.double (4652033697120256000 : UInt64)), (.double (4652042493213278208 : UInt64)), (.double (4652051289306300416 : UInt64))] [(.int (10 : Int32)), (.int (11 : Int32)), (.int (12 : Int32)), (.int (13 : Int32)), (.int (14 : Int32)), (.int (15 : Int32))] (4652024901027233792 : UInt64) (12 : Int32) T634.heap n0 z644 f639 f638 fu634 fw634 (by decide) rfl rfl (by decide) rfl rfl (own_self own_cst.2.2.1)) (own_hw hw 16 rfl) (own_hw hw 15 rfl) (by decide) e647 (by rw [hml]; rfl) [(.int (2 : Int32)), (.int (0 : Int32)), (.int (1 : Int32)), (.int (1 : Int32)), (.int (0 : Int32)), (.double d), (.int i2), (.ref b365), (.ref b369), (.ref b467), (.ref b531)] 0 (by decide) (Nat.le_of_eq rfl) (by decide) (by decide) (lenOf own_pd3 rfl) rfl rfl 548 rfl (hb hby at_545) fun v649 T649 Lc649 X649 hQ649 => ?_
          obtain ⟨rfl, Nq649, e649⟩ := hQ649
          have N650 := Fr.app N648 Nq649
          show own_Go _ _ _ _ _ (State.setTop _ (mkF _ 548 _ [(.int (1 : Int32))]))
          refine own_ifNo X649 hx 551 rfl (hb hby at_548) (by decide) ?_
          refine own_iconst X649 hx 552 rfl (hb hby at_551) (3 : Int32) rfl ?_
          refine own_iload X649 hx 554 rfl (hb hby at_552) rfl ?_
          refine own_iload X649 hx 556 rfl (hb hby at_554) rfl ?_
          refine own_iload X649 hx 558 rfl (hb hby at_556) rfl ?_
          refine own_iload X649 hx 560 rfl (hb hby at_558) rfl ?_
          refine own_dload X649 hx 562 rfl (hb hby at_560) rfl ?_
          refine own_iloadN X649 hx 563 rfl (hb hby at_562) rfl ?_
          refine own_aload X649 hx 565 rfl (hb hby at_563) rfl rfl ?_
          refine own_aload X649 hx 567 rfl (hb hby at_565) rfl rfl ?_
          refine own_aload X649 hx 569 rfl (hb hby at_567) rfl rfl ?_
          refine own_aload X649 hx 571 rfl (hb hby at_569) rfl rfl ?_
          refine own_callS X649 hx hZ (y := (⟨"com/example/outpost/outpost/model/DistancesKeepNearerPinLaw", "same", "(IIIIZDI[D[I[D[I)Z"⟩ : MethodName)) hown (own_hw hw 13 rfl) (own_hw hw 14 rfl) (by decide) (rm_same_A1 l Z a0 hw [] (3 : Int32) (0 : Int32) (1 : Int32) (1 : Int32) d i2 b365 b369 b467 b531 k365 k369 k467 k531 [(.double e0), (.double (4652016104934211584 : UInt64)), (.double (4652024901027233792 : UInt64)), (.double (4652033697120256000 : UInt64)), (.double (4652042493213278208 : UInt64)), (.double (4652051289306300416 : UInt64))] [(.int (10 : Int32)), (.int (11 : Int32)), (.int (12 : Int32)), (.int (13 : Int32)), (.int (14 : Int32)), (.int (15 : Int32))] [(.double e0), (.double (4652016104934211584 : UInt64)), (.double (4652024901027233792 : UInt64)), (.double (4652033697120256000 : UInt64)), (.double (4652042493213278208 : UInt64)), (.double (4652051289306300416 : UInt64))] [(.int (10 : Int32)), (.int (11 : Int32)), (.int (12 : Int32)), (.int (13 : Int32)), (.int (14 : Int32)), (.int (15 : Int32))] (4652033697120256000 : UInt64) (13 : Int32) T634.heap n0 z644 f639 f638 fu634 fw634 (by decide) rfl rfl (by decide) rfl rfl (own_self own_cst.2.2.2.1)) (own_hw hw 16 rfl) (own_hw hw 15 rfl) (by decide) e649 (by rw [hml]; rfl) [(.int (3 : Int32)), (.int (0 : Int32)), (.int (1 : Int32)), (.int (1 : Int32)), (.int (0 : Int32)), (.double d), (.int i2), (.ref b365), (.ref b369), (.ref b467), (.ref b531)] 0 (by decide) (Nat.le_of_eq rfl) (by decide) (by decide) (lenOf own_pd3 rfl) rfl rfl 574 rfl (hb hby at_571) fun v651 T651 Lc651 X651 hQ651 => ?_
          obtain ⟨rfl, Nq651, e651⟩ := hQ651
          have N652 := Fr.app N650 Nq651
          show own_Go _ _ _ _ _ (State.setTop _ (mkF _ 574 _ [(.int (1 : Int32))]))
          refine own_ifNo X651 hx 577 rfl (hb hby at_574) (by decide) ?_
          refine own_iconst X651 hx 578 rfl (hb hby at_577) (4 : Int32) rfl ?_
          refine own_iload X651 hx 580 rfl (hb hby at_578) rfl ?_
          refine own_iload X651 hx 582 rfl (hb hby at_580) rfl ?_
          refine own_iload X651 hx 584 rfl (hb hby at_582) rfl ?_
          refine own_iload X651 hx 586 rfl (hb hby at_584) rfl ?_
          refine own_dload X651 hx 588 rfl (hb hby at_586) rfl ?_
          refine own_iloadN X651 hx 589 rfl (hb hby at_588) rfl ?_
          refine own_aload X651 hx 591 rfl (hb hby at_589) rfl rfl ?_
          refine own_aload X651 hx 593 rfl (hb hby at_591) rfl rfl ?_
          refine own_aload X651 hx 595 rfl (hb hby at_593) rfl rfl ?_
          refine own_aload X651 hx 597 rfl (hb hby at_595) rfl rfl ?_
          refine own_callS X651 hx hZ (y := (⟨"com/example/outpost/outpost/model/DistancesKeepNearerPinLaw", "same", "(IIIIZDI[D[I[D[I)Z"⟩ : MethodName)) hown (own_hw hw 13 rfl) (own_hw hw 14 rfl) (by decide) (rm_same_A1 l Z a0 hw [] (4 : Int32) (0 : Int32) (1 : Int32) (1 : Int32) d i2 b365 b369 b467 b531 k365 k369 k467 k531 [(.double e0), (.double (4652016104934211584 : UInt64)), (.double (4652024901027233792 : UInt64)), (.double (4652033697120256000 : UInt64)), (.double (4652042493213278208 : UInt64)), (.double (4652051289306300416 : UInt64))] [(.int (10 : Int32)), (.int (11 : Int32)), (.int (12 : Int32)), (.int (13 : Int32)), (.int (14 : Int32)), (.int (15 : Int32))] [(.double e0), (.double (4652016104934211584 : UInt64)), (.double (4652024901027233792 : UInt64)), (.double (4652033697120256000 : UInt64)), (.double (4652042493213278208 : UInt64)), (.double (4652051289306300416 : UInt64))] [(.int (10 : Int32)), (.int (11 : Int32)), (.int (12 : Int32)), (.int (13 : Int32)), (.int (14 : Int32)), (.int (15 : Int32))] (4652042493213278208 : UInt64) (14 : Int32) T634.heap n0 z644 f639 f638 fu634 fw634 (by decide) rfl rfl (by decide) rfl rfl (own_self own_cst.2.2.2.2.1)) (own_hw hw 16 rfl) (own_hw hw 15 rfl) (by decide) e651 (by rw [hml]; rfl) [(.int (4 : Int32)), (.int (0 : Int32)), (.int (1 : Int32)), (.int (1 : Int32)), (.int (0 : Int32)), (.double d), (.int i2), (.ref b365), (.ref b369), (.ref b467), (.ref b531)] 0 (by decide) (Nat.le_of_eq rfl) (by decide) (by decide) (lenOf own_pd3 rfl) rfl rfl 600 rfl (hb hby at_597) fun v653 T653 Lc653 X653 hQ653 => ?_
          obtain ⟨rfl, Nq653, e653⟩ := hQ653
          have N654 := Fr.app N652 Nq653
          show own_Go _ _ _ _ _ (State.setTop _ (mkF _ 600 _ [(.int (1 : Int32))]))
          refine own_ifNo X653 hx 603 rfl (hb hby at_600) (by decide) ?_
          refine own_iconst X653 hx 604 rfl (hb hby at_603) (5 : Int32) rfl ?_
          refine own_iload X653 hx 606 rfl (hb hby at_604) rfl ?_
          refine own_iload X653 hx 608 rfl (hb hby at_606) rfl ?_
          refine own_iload X653 hx 610 rfl (hb hby at_608) rfl ?_
          refine own_iload X653 hx 612 rfl (hb hby at_610) rfl ?_
          refine own_dload X653 hx 614 rfl (hb hby at_612) rfl ?_
          refine own_iloadN X653 hx 615 rfl (hb hby at_614) rfl ?_
          refine own_aload X653 hx 617 rfl (hb hby at_615) rfl rfl ?_
          refine own_aload X653 hx 619 rfl (hb hby at_617) rfl rfl ?_
          refine own_aload X653 hx 621 rfl (hb hby at_619) rfl rfl ?_
          refine own_aload X653 hx 623 rfl (hb hby at_621) rfl rfl ?_
          refine own_callS X653 hx hZ (y := (⟨"com/example/outpost/outpost/model/DistancesKeepNearerPinLaw", "same", "(IIIIZDI[D[I[D[I)Z"⟩ : MethodName)) hown (own_hw hw 13 rfl) (own_hw hw 14 rfl) (by decide) (rm_same_A1 l Z a0 hw [] (5 : Int32) (0 : Int32) (1 : Int32) (1 : Int32) d i2 b365 b369 b467 b531 k365 k369 k467 k531 [(.double e0), (.double (4652016104934211584 : UInt64)), (.double (4652024901027233792 : UInt64)), (.double (4652033697120256000 : UInt64)), (.double (4652042493213278208 : UInt64)), (.double (4652051289306300416 : UInt64))] [(.int (10 : Int32)), (.int (11 : Int32)), (.int (12 : Int32)), (.int (13 : Int32)), (.int (14 : Int32)), (.int (15 : Int32))] [(.double e0), (.double (4652016104934211584 : UInt64)), (.double (4652024901027233792 : UInt64)), (.double (4652033697120256000 : UInt64)), (.double (4652042493213278208 : UInt64)), (.double (4652051289306300416 : UInt64))] [(.int (10 : Int32)), (.int (11 : Int32)), (.int (12 : Int32)), (.int (13 : Int32)), (.int (14 : Int32)), (.int (15 : Int32))] (4652051289306300416 : UInt64) (15 : Int32) T634.heap n0 z644 f639 f638 fu634 fw634 (by decide) rfl rfl (by decide) rfl rfl (own_self own_cst.2.2.2.2.2)) (own_hw hw 16 rfl) (own_hw hw 15 rfl) (by decide) e653 (by rw [hml]; rfl) [(.int (5 : Int32)), (.int (0 : Int32)), (.int (1 : Int32)), (.int (1 : Int32)), (.int (0 : Int32)), (.double d), (.int i2), (.ref b365), (.ref b369), (.ref b467), (.ref b531)] 0 (by decide) (Nat.le_of_eq rfl) (by decide) (by decide) (lenOf own_pd3 rfl) rfl rfl 626 rfl (hb hby at_623) fun v655 T655 Lc655 X655 hQ655 => ?_
          obtain ⟨rfl, Nq655, e655⟩ := hQ655
          have N656 := Fr.app N654 Nq655
          show own_Go _ _ _ _ _ (State.setTop _ (mkF _ 626 _ [(.int (1 : Int32))]))
          refine own_ifNo X655 hx 629 rfl (hb hby at_626) (by decide) ?_
          refine own_iconst X655 hx 630 rfl (hb hby at_629) (1 : Int32) rfl ?_
          refine own_goto X655 hx 634 (hb hby at_630) (by decide) rfl ?_
          refine own_ret X655 (some (.int (1 : Int32))) (fun h => by rw [Bd.returns] at h; cases h) Bd.notSynchronized (by decide) (by decide) ?_ (fun fs hr => retN X655 hx (t := .boolean) Bd.returns (by simp) (hb hby at_634) hr)
          show Q_rm0 Z i0 i1 i2 h0 n0 _ T655.heap _
          rw [e655]
          exact ⟨rfl, N656⟩
      by_cases hc657 : (0 : Int32) < (own_k i0)
      ·
        refine own_icmpYes X453 hx 202 (hb hby at_195) (tlt hc657).1 (by decide) rfl ?_
        refine own_iload X453 hx 204 rfl (hb hby at_202) rfl ?_
        refine own_i2d X453 hx 205 rfl (hb hby at_204) _ rfl ?_
        exact J205 _ (if_pos hc657).symm
      ·
        refine own_icmpNo X453 hx 198 rfl (hb hby at_195) (flt hc657).1 ?_
        refine own_dloadN X453 hx 199 rfl (hb hby at_198) rfl ?_
        refine own_goto X453 hx 205 (hb hby at_199) (by decide) rfl ?_
        exact J205 _ (if_neg hc657).symm
    ·
      show own_Go _ _ _ _ _ (State.setTop _ (mkF _ 181 #[.val (.int i0), .val (.int i1), .val (.int i2), .val (.double (9218868437227405312 : UInt64)), .second, .val (.int (1 : Int32)), .val (.int (1 : Int32)), .val (.int (own_k i0)), .val (.int f8), .val (.int (own_a0 i1)), .val (.int (own_a1 i1)), .val (.int (own_a2 i1)), .val (.double d), .second, .val (.ref b365), .val (.ref b369), .unset, .unset, .unset, .unset, .unset, .unset] []))
      refine own_iload X453 hx 183 rfl (hb hby at_181) rfl ?_
      refine own_iload X453 hx 185 rfl (hb hby at_183) rfl ?_
      refine own_imul X453 hx 186 rfl (hb hby at_185) (1 : Int32) rfl ?_
      refine own_istore X453 hx 188 rfl (hb hby at_186) #[.val (.int i0), .val (.int i1), .val (.int i2), .val (.double (9218868437227405312 : UInt64)), .second, .val (.int (1 : Int32)), .val (.int (1 : Int32)), .val (.int (own_k i0)), .val (.int f8), .val (.int (own_a0 i1)), .val (.int (own_a1 i1)), .val (.int (own_a2 i1)), .val (.double d), .second, .val (.ref b365), .val (.ref b369), .val (.int (1 : Int32)), .unset, .unset, .unset, .unset, .unset] rfl ?_
      refine own_aload X453 hx 190 rfl (hb hby at_188) rfl rfl ?_
      refine own_iload X453 hx 192 rfl (hb hby at_190) rfl ?_
      refine own_iconst X453 hx 193 rfl (hb hby at_192) (0 : Int32) rfl ?_
      refine own_iload X453 hx 195 rfl (hb hby at_193) rfl ?_
      have J205 : ∀ (e0 : UInt64), (e0 = (own_v (0 : Int32) (own_k i0) (own_a0 i1))) → own_Go p e below (fun o u L => FrameEnd s o u L room_1.cells room_1.slots) (Q_rm0 Z i0 i1 i2 h0 n0) (T453.setTop (mkF m 205 #[.val (.int i0), .val (.int i1), .val (.int i2), .val (.double (9218868437227405312 : UInt64)), .second, .val (.int (1 : Int32)), .val (.int (1 : Int32)), .val (.int (own_k i0)), .val (.int f8), .val (.int (own_a0 i1)), .val (.int (own_a1 i1)), .val (.int (own_a2 i1)), .val (.double d), .second, .val (.ref b365), .val (.ref b369), .val (.int (1 : Int32)), .unset, .unset, .unset, .unset, .unset] [(.double e0), (.int (1 : Int32)), (.ref b365)])) := by
        intro e0 he0
        have nn0 : FP.Core.val64 e0 ≠ .nan := by rw [he0]; exact own_v_nan _ _ _
        show own_Go _ _ _ _ _ (State.setTop _ (mkF _ 205 _ [(.double e0), (.int (1 : Int32)), (.ref b365)]))
        refine own_stD X453 hx hZ e453 f457 ⟨by decide, by decide⟩ 1 rfl (Nat.le_of_ble_eq_true rfl) [(.double (4652007308841189376 : UInt64)), (.double e0), (.double (4652024901027233792 : UInt64)), (.double (4652033697120256000 : UInt64)), (.double (4652042493213278208 : UInt64)), (.double (4652051289306300416 : UInt64))] rfl 206 rfl (hb hby at_205) fun T658 h658 X658 e658 W658 f659 => ?_
        have f660 := f455.wr W658
        have f661 := f456.wr W658
        have f662 := f454.other W658 (Ne.symm ne370)
        have z663 := Nat.le_trans z458 (Keep.of_wr W658).1
        have N664 := Fr.snoc X658 N459 ge366
        refine own_iload X658 hx 208 rfl (hb hby at_206) rfl ?_
        refine own_iconst X658 hx 209 rfl (hb hby at_208) (2 : Int32) rfl ?_
        refine own_icmpYes X658 hx 232 (hb hby at_209) (by decide) (by decide) rfl ?_
        refine own_iload X658 hx 234 rfl (hb hby at_232) rfl ?_
        refine own_iconst X658 hx 235 rfl (hb hby at_234) (3 : Int32) rfl ?_
        refine own_icmpYes X658 hx 258 (hb hby at_235) (by decide) (by decide) rfl ?_
        refine own_bipush X658 hx 260 rfl (hb hby at_258) (6 : Int32) rfl ?_
        refine own_newA X658 hx hZ (own_hw hw 1 rfl) e658 262 rfl (hb hby at_260) (by decide) 6 (by decide) (by decide) (by decide) (by decide) "[D" (by decide) fun T665 h665 k665 b665 g665 X665 e665 E665 A665 C665 => ?_
        have ne666 : b365 ≠ b665 := Nat.ne_of_lt (Nat.lt_of_lt_of_le f660.lt (Nat.le_of_eq g665.symm))
        have ne667 : b369 ≠ b665 := Nat.ne_of_lt (Nat.lt_of_lt_of_le f661.lt (Nat.le_of_eq g665.symm))
        have ge668 : n0 ≤ b665 := Nat.le_trans z663 (Nat.le_of_eq g665.symm)
        have f669 := f660.ext E665
        have f670 := f661.ext E665
        have f671 := f662.ext E665
        have f672 := f659.ext E665
        have z673 := Nat.le_trans z663 E665.1
        have f674 : Arv Z h665 b665 k665 .double (6 : Int32) [(.double (0 : UInt64)), (.double (0 : UInt64)), (.double (0 : UInt64)), (.double (0 : UInt64)), (.double (0 : UInt64)), (.double (0 : UInt64))] (.double (0 : UInt64)) := (Arv.new A665 (by decide)).pad (pad_rep [] (.double (0 : UInt64)) 6)
        refine own_astore X665 hx 264 rfl (hb hby at_262) rfl #[.val (.int i0), .val (.int i1), .val (.int i2), .val (.double (9218868437227405312 : UInt64)), .second, .val (.int (1 : Int32)), .val (.int (1 : Int32)), .val (.int (own_k i0)), .val (.int f8), .val (.int (own_a0 i1)), .val (.int (own_a1 i1)), .val (.int (own_a2 i1)), .val (.double d), .second, .val (.ref b365), .val (.ref b369), .val (.int (1 : Int32)), .val (.ref b665), .unset, .unset, .unset, .unset] rfl ?_
        refine own_aload X665 hx 266 rfl (hb hby at_264) rfl rfl ?_
        refine own_iconst X665 hx 267 rfl (hb hby at_266) (0 : Int32) rfl ?_
        refine own_aload X665 hx 269 rfl (hb hby at_267) rfl rfl ?_
        refine own_iconst X665 hx 270 rfl (hb hby at_269) (0 : Int32) rfl ?_
        refine own_ldD X665 hx hZ e665 f672 ⟨by decide, by decide⟩ (4652007308841189376 : UInt64) rfl 271 rfl (hb hby at_270) ?_
        refine own_stD X665 hx hZ e665 f674 ⟨by decide, by decide⟩ 0 rfl (Nat.le_of_ble_eq_true rfl) [(.double (4652007308841189376 : UInt64)), (.double (0 : UInt64)), (.double (0 : UInt64)), (.double (0 : UInt64)), (.double (0 : UInt64)), (.double (0 : UInt64))] rfl 272 rfl (hb hby at_271) fun T675 h675 X675 e675 W675 f676 => ?_
        have f677 := f669.wr W675
        have f678 := f670.wr W675
        have f679 := f671.other W675 ne667
        have f680 := f672.other W675 ne666
        have f681 := C665.wr W675
        have z682 := Nat.le_trans z673 (Keep.of_wr W675).1
        have N683 := Fr.snoc X675 N664 ge668
        refine own_aload X675 hx 274 rfl (hb hby at_272) rfl rfl ?_
        refine own_iconst X675 hx 275 rfl (hb hby at_274) (1 : Int32) rfl ?_
        refine own_aload X675 hx 277 rfl (hb hby at_275) rfl rfl ?_
        refine own_iconst X675 hx 278 rfl (hb hby at_277) (1 : Int32) rfl ?_
        refine own_ldD X675 hx hZ e675 f680 ⟨by decide, by decide⟩ e0 rfl 279 rfl (hb hby at_278) ?_
        refine own_stD X675 hx hZ e675 f676 ⟨by decide, by decide⟩ 1 rfl (Nat.le_of_ble_eq_true rfl) [(.double (4652007308841189376 : UInt64)), (.double e0), (.double (0 : UInt64)), (.double (0 : UInt64)), (.double (0 : UInt64)), (.double (0 : UInt64))] rfl 280 rfl (hb hby at_279) fun T684 h684 X684 e684 W684 f685 => ?_
        have f686 := f677.wr W684
        have f687 := f678.wr W684
        have f688 := f679.other W684 ne667
        have f689 := f680.other W684 ne666
        have f690 := f681.wr W684
        have z691 := Nat.le_trans z682 (Keep.of_wr W684).1
        have N692 := Fr.snoc X684 N683 ge668
        refine own_aload X684 hx 282 rfl (hb hby at_280) rfl rfl ?_
        refine own_iconst X684 hx 283 rfl (hb hby at_282) (2 : Int32) rfl ?_
        refine own_aload X684 hx 285 rfl (hb hby at_283) rfl rfl ?_
        refine own_iconst X684 hx 286 rfl (hb hby at_285) (2 : Int32) rfl ?_
        refine own_ldD X684 hx hZ e684 f689 ⟨by decide, by decide⟩ (4652024901027233792 : UInt64) rfl 287 rfl (hb hby at_286) ?_
        refine own_stD X684 hx hZ e684 f685 ⟨by decide, by decide⟩ 2 rfl (Nat.le_of_ble_eq_true rfl) [(.double (4652007308841189376 : UInt64)), (.double e0), (.double (4652024901027233792 : UInt64)), (.double (0 : UInt64)), (.double (0 : UInt64)), (.double (0 : UInt64))] rfl 288 rfl (hb hby at_287) fun T693 h693 X693 e693 W693 f694 => ?_
        have f695 := f686.wr W693
        have f696 := f687.wr W693
        have f697 := f688.other W693 ne667
        have f698 := f689.other W693 ne666
        have f699 := f690.wr W693
        have z700 := Nat.le_trans z691 (Keep.of_wr W693).1
        have N701 := Fr.snoc X693 N692 ge668
        refine own_aload X693 hx 290 rfl (hb hby at_288) rfl rfl ?_
        refine own_iconst X693 hx 291 rfl (hb hby at_290) (3 : Int32) rfl ?_
        refine own_aload X693 hx 293 rfl (hb hby at_291) rfl rfl ?_
        refine own_iconst X693 hx 294 rfl (hb hby at_293) (3 : Int32) rfl ?_
        refine own_ldD X693 hx hZ e693 f698 ⟨by decide, by decide⟩ (4652033697120256000 : UInt64) rfl 295 rfl (hb hby at_294) ?_
        refine own_stD X693 hx hZ e693 f694 ⟨by decide, by decide⟩ 3 rfl (Nat.le_of_ble_eq_true rfl) [(.double (4652007308841189376 : UInt64)), (.double e0), (.double (4652024901027233792 : UInt64)), (.double (4652033697120256000 : UInt64)), (.double (0 : UInt64)), (.double (0 : UInt64))] rfl 296 rfl (hb hby at_295) fun T702 h702 X702 e702 W702 f703 => ?_
        have f704 := f695.wr W702
        have f705 := f696.wr W702
        have f706 := f697.other W702 ne667
        have f707 := f698.other W702 ne666
        have f708 := f699.wr W702
        have z709 := Nat.le_trans z700 (Keep.of_wr W702).1
        have N710 := Fr.snoc X702 N701 ge668
        refine own_aload X702 hx 298 rfl (hb hby at_296) rfl rfl ?_
        refine own_iconst X702 hx 299 rfl (hb hby at_298) (4 : Int32) rfl ?_
        refine own_aload X702 hx 301 rfl (hb hby at_299) rfl rfl ?_
        refine own_iconst X702 hx 302 rfl (hb hby at_301) (4 : Int32) rfl ?_
        refine own_ldD X702 hx hZ e702 f707 ⟨by decide, by decide⟩ (4652042493213278208 : UInt64) rfl 303 rfl (hb hby at_302) ?_
        refine own_stD X702 hx hZ e702 f703 ⟨by decide, by decide⟩ 4 rfl (Nat.le_of_ble_eq_true rfl) [(.double (4652007308841189376 : UInt64)), (.double e0), (.double (4652024901027233792 : UInt64)), (.double (4652033697120256000 : UInt64)), (.double (4652042493213278208 : UInt64)), (.double (0 : UInt64))] rfl 304 rfl (hb hby at_303) fun T711 h711 X711 e711 W711 f712 => ?_
        have f713 := f704.wr W711
        have f714 := f705.wr W711
        have f715 := f706.other W711 ne667
        have f716 := f707.other W711 ne666
        have f717 := f708.wr W711
        have z718 := Nat.le_trans z709 (Keep.of_wr W711).1
        have N719 := Fr.snoc X711 N710 ge668
        refine own_aload X711 hx 306 rfl (hb hby at_304) rfl rfl ?_
        refine own_iconst X711 hx 307 rfl (hb hby at_306) (5 : Int32) rfl ?_
        refine own_aload X711 hx 309 rfl (hb hby at_307) rfl rfl ?_
        refine own_iconst X711 hx 310 rfl (hb hby at_309) (5 : Int32) rfl ?_
        refine own_ldD X711 hx hZ e711 f716 ⟨by decide, by decide⟩ (4652051289306300416 : UInt64) rfl 311 rfl (hb hby at_310) ?_
        refine own_stD X711 hx hZ e711 f712 ⟨by decide, by decide⟩ 5 rfl (Nat.le_of_ble_eq_true rfl) [(.double (4652007308841189376 : UInt64)), (.double e0), (.double (4652024901027233792 : UInt64)), (.double (4652033697120256000 : UInt64)), (.double (4652042493213278208 : UInt64)), (.double (4652051289306300416 : UInt64))] rfl 312 rfl (hb hby at_311) fun T720 h720 X720 e720 W720 f721 => ?_
        have f722 := f713.wr W720
        have f723 := f714.wr W720
        have f724 := f715.other W720 ne667
        have f725 := f716.other W720 ne666
        have f726 := f717.wr W720
        have z727 := Nat.le_trans z718 (Keep.of_wr W720).1
        have N728 := Fr.snoc X720 N719 ge668
        refine own_bipush X720 hx 314 rfl (hb hby at_312) (6 : Int32) rfl ?_
        refine own_newA X720 hx hZ (own_hw hw 2 rfl) e720 316 rfl (hb hby at_314) (by decide) 6 (by decide) (by decide) (by decide) (by decide) "[I" (by decide) fun T729 h729 k729 b729 g729 X729 e729 E729 A729 C729 => ?_
        have ne730 : b365 ≠ b729 := Nat.ne_of_lt (Nat.lt_of_lt_of_le f722.lt (Nat.le_of_eq g729.symm))
        have ne731 : b369 ≠ b729 := Nat.ne_of_lt (Nat.lt_of_lt_of_le f723.lt (Nat.le_of_eq g729.symm))
        have ne732 : b665 ≠ b729 := Nat.ne_of_lt (Nat.lt_of_lt_of_le f726.lt (Nat.le_of_eq g729.symm))
        have ge733 : n0 ≤ b729 := Nat.le_trans z727 (Nat.le_of_eq g729.symm)
        have f734 := f722.ext E729
        have f735 := f723.ext E729
        have f736 := f724.ext E729
        have f737 := f725.ext E729
        have f738 := f726.ext E729
        have f739 := f721.ext E729
        have z740 := Nat.le_trans z727 E729.1
        have f741 : Arv Z h729 b729 k729 .int (6 : Int32) [(.int (0 : Int32)), (.int (0 : Int32)), (.int (0 : Int32)), (.int (0 : Int32)), (.int (0 : Int32)), (.int (0 : Int32))] (.int (0 : Int32)) := (Arv.new A729 (by decide)).pad (pad_rep [] (.int (0 : Int32)) 6)
        refine own_astore X729 hx 318 rfl (hb hby at_316) rfl #[.val (.int i0), .val (.int i1), .val (.int i2), .val (.double (9218868437227405312 : UInt64)), .second, .val (.int (1 : Int32)), .val (.int (1 : Int32)), .val (.int (own_k i0)), .val (.int f8), .val (.int (own_a0 i1)), .val (.int (own_a1 i1)), .val (.int (own_a2 i1)), .val (.double d), .second, .val (.ref b365), .val (.ref b369), .val (.int (1 : Int32)), .val (.ref b665), .val (.ref b729), .unset, .unset, .unset] rfl ?_
        refine own_aload X729 hx 320 rfl (hb hby at_318) rfl rfl ?_
        refine own_iconst X729 hx 321 rfl (hb hby at_320) (0 : Int32) rfl ?_
        refine own_aload X729 hx 323 rfl (hb hby at_321) rfl rfl ?_
        refine own_iconst X729 hx 324 rfl (hb hby at_323) (0 : Int32) rfl ?_
        refine own_ldI X729 hx hZ e729 f736 ⟨by decide, by decide⟩ (10 : Int32) rfl 325 rfl (hb hby at_324) ?_
        refine own_stI X729 hx hZ e729 f741 ⟨by decide, by decide⟩ 0 rfl (Nat.le_of_ble_eq_true rfl) [(.int (10 : Int32)), (.int (0 : Int32)), (.int (0 : Int32)), (.int (0 : Int32)), (.int (0 : Int32)), (.int (0 : Int32))] rfl 326 rfl (hb hby at_325) fun T742 h742 X742 e742 W742 f743 => ?_
        have f744 := f734.wr W742
        have f745 := f735.wr W742
        have f746 := f736.other W742 ne731
        have f747 := f737.other W742 ne730
        have f748 := f738.wr W742
        have f749 := f739.other W742 ne732
        have f750 := C729.wr W742
        have z751 := Nat.le_trans z740 (Keep.of_wr W742).1
        have N752 := Fr.snoc X742 N728 ge733
        refine own_aload X742 hx 328 rfl (hb hby at_326) rfl rfl ?_
        refine own_iconst X742 hx 329 rfl (hb hby at_328) (1 : Int32) rfl ?_
        refine own_aload X742 hx 331 rfl (hb hby at_329) rfl rfl ?_
        refine own_iconst X742 hx 332 rfl (hb hby at_331) (1 : Int32) rfl ?_
        refine own_ldI X742 hx hZ e742 f746 ⟨by decide, by decide⟩ (11 : Int32) rfl 333 rfl (hb hby at_332) ?_
        refine own_stI X742 hx hZ e742 f743 ⟨by decide, by decide⟩ 1 rfl (Nat.le_of_ble_eq_true rfl) [(.int (10 : Int32)), (.int (11 : Int32)), (.int (0 : Int32)), (.int (0 : Int32)), (.int (0 : Int32)), (.int (0 : Int32))] rfl 334 rfl (hb hby at_333) fun T753 h753 X753 e753 W753 f754 => ?_
        have f755 := f744.wr W753
        have f756 := f745.wr W753
        have f757 := f746.other W753 ne731
        have f758 := f747.other W753 ne730
        have f759 := f748.wr W753
        have f760 := f749.other W753 ne732
        have f761 := f750.wr W753
        have z762 := Nat.le_trans z751 (Keep.of_wr W753).1
        have N763 := Fr.snoc X753 N752 ge733
        refine own_aload X753 hx 336 rfl (hb hby at_334) rfl rfl ?_
        refine own_iconst X753 hx 337 rfl (hb hby at_336) (2 : Int32) rfl ?_
        refine own_aload X753 hx 339 rfl (hb hby at_337) rfl rfl ?_
        refine own_iconst X753 hx 340 rfl (hb hby at_339) (2 : Int32) rfl ?_
        refine own_ldI X753 hx hZ e753 f757 ⟨by decide, by decide⟩ (12 : Int32) rfl 341 rfl (hb hby at_340) ?_
        refine own_stI X753 hx hZ e753 f754 ⟨by decide, by decide⟩ 2 rfl (Nat.le_of_ble_eq_true rfl) [(.int (10 : Int32)), (.int (11 : Int32)), (.int (12 : Int32)), (.int (0 : Int32)), (.int (0 : Int32)), (.int (0 : Int32))] rfl 342 rfl (hb hby at_341) fun T764 h764 X764 e764 W764 f765 => ?_
        have f766 := f755.wr W764
        have f767 := f756.wr W764
        have f768 := f757.other W764 ne731
        have f769 := f758.other W764 ne730
        have f770 := f759.wr W764
        have f771 := f760.other W764 ne732
        have f772 := f761.wr W764
        have z773 := Nat.le_trans z762 (Keep.of_wr W764).1
        have N774 := Fr.snoc X764 N763 ge733
        refine own_aload X764 hx 344 rfl (hb hby at_342) rfl rfl ?_
        refine own_iconst X764 hx 345 rfl (hb hby at_344) (3 : Int32) rfl ?_
        refine own_aload X764 hx 347 rfl (hb hby at_345) rfl rfl ?_
        refine own_iconst X764 hx 348 rfl (hb hby at_347) (3 : Int32) rfl ?_
        refine own_ldI X764 hx hZ e764 f768 ⟨by decide, by decide⟩ (13 : Int32) rfl 349 rfl (hb hby at_348) ?_
        refine own_stI X764 hx hZ e764 f765 ⟨by decide, by decide⟩ 3 rfl (Nat.le_of_ble_eq_true rfl) [(.int (10 : Int32)), (.int (11 : Int32)), (.int (12 : Int32)), (.int (13 : Int32)), (.int (0 : Int32)), (.int (0 : Int32))] rfl 350 rfl (hb hby at_349) fun T775 h775 X775 e775 W775 f776 => ?_
        have f777 := f766.wr W775
        have f778 := f767.wr W775
        have f779 := f768.other W775 ne731
        have f780 := f769.other W775 ne730
        have f781 := f770.wr W775
        have f782 := f771.other W775 ne732
        have f783 := f772.wr W775
        have z784 := Nat.le_trans z773 (Keep.of_wr W775).1
        have N785 := Fr.snoc X775 N774 ge733
        refine own_aload X775 hx 352 rfl (hb hby at_350) rfl rfl ?_
        refine own_iconst X775 hx 353 rfl (hb hby at_352) (4 : Int32) rfl ?_
        refine own_aload X775 hx 355 rfl (hb hby at_353) rfl rfl ?_
        refine own_iconst X775 hx 356 rfl (hb hby at_355) (4 : Int32) rfl ?_
        refine own_ldI X775 hx hZ e775 f779 ⟨by decide, by decide⟩ (14 : Int32) rfl 357 rfl (hb hby at_356) ?_
        refine own_stI X775 hx hZ e775 f776 ⟨by decide, by decide⟩ 4 rfl (Nat.le_of_ble_eq_true rfl) [(.int (10 : Int32)), (.int (11 : Int32)), (.int (12 : Int32)), (.int (13 : Int32)), (.int (14 : Int32)), (.int (0 : Int32))] rfl 358 rfl (hb hby at_357) fun T786 h786 X786 e786 W786 f787 => ?_
        have f788 := f777.wr W786
        have f789 := f778.wr W786
        have f790 := f779.other W786 ne731
        have f791 := f780.other W786 ne730
        have f792 := f781.wr W786
        have f793 := f782.other W786 ne732
        have f794 := f783.wr W786
        have z795 := Nat.le_trans z784 (Keep.of_wr W786).1
        have N796 := Fr.snoc X786 N785 ge733
        refine own_aload X786 hx 360 rfl (hb hby at_358) rfl rfl ?_
        refine own_iconst X786 hx 361 rfl (hb hby at_360) (5 : Int32) rfl ?_
        refine own_aload X786 hx 363 rfl (hb hby at_361) rfl rfl ?_
        refine own_iconst X786 hx 364 rfl (hb hby at_363) (5 : Int32) rfl ?_
        refine own_ldI X786 hx hZ e786 f790 ⟨by decide, by decide⟩ (15 : Int32) rfl 365 rfl (hb hby at_364) ?_
        refine own_stI X786 hx hZ e786 f787 ⟨by decide, by decide⟩ 5 rfl (Nat.le_of_ble_eq_true rfl) [(.int (10 : Int32)), (.int (11 : Int32)), (.int (12 : Int32)), (.int (13 : Int32)), (.int (14 : Int32)), (.int (15 : Int32))] rfl 366 rfl (hb hby at_365) fun T797 h797 X797 e797 W797 f798 => ?_
        have f799 := f788.wr W797
        have f800 := f789.wr W797
        have f801 := f790.other W797 ne731
        have f802 := f791.other W797 ne730
        have f803 := f792.wr W797
        have f804 := f793.other W797 ne732
        have f805 := f794.wr W797
        have z806 := Nat.le_trans z795 (Keep.of_wr W797).1
        have N807 := Fr.snoc X797 N796 ge733
        refine own_dload X797 hx 368 rfl (hb hby at_366) rfl ?_
        refine own_aload X797 hx 370 rfl (hb hby at_368) rfl rfl ?_
        refine own_iload X797 hx 372 rfl (hb hby at_370) rfl ?_
        refine own_iload X797 hx 374 rfl (hb hby at_372) rfl ?_
        refine own_iadd X797 hx 375 rfl (hb hby at_374) (2 : Int32) rfl ?_
        refine own_iconst X797 hx 376 rfl (hb hby at_375) (1 : Int32) rfl ?_
        refine own_isub X797 hx 377 rfl (hb hby at_376) (1 : Int32) rfl ?_
        refine own_ldD X797 hx hZ e797 f802 ⟨by decide, by decide⟩ e0 rfl 378 rfl (hb hby at_377) ?_
        by_cases hc808 : own_z d < own_z e0
        ·
          refine own_dcmp X797 hx 379 rfl (hb hby at_378) _ rfl ?_
          refine own_ifNo X797 hx 382 rfl (hb hby at_379) ((if0 _ _).trans (tlt (own_cg hd nn0 hc808 .g)).2.1) ?_
          refine own_iconst X797 hx 383 rfl (hb hby at_382) (1 : Int32) rfl ?_
          refine own_goto X797 hx 387 (hb hby at_383) (by decide) rfl ?_
          refine own_istore X797 hx 389 rfl (hb hby at_387) #[.val (.int i0), .val (.int i1), .val (.int i2), .val (.double (9218868437227405312 : UInt64)), .second, .val (.int (1 : Int32)), .val (.int (1 : Int32)), .val (.int (own_k i0)), .val (.int f8), .val (.int (own_a0 i1)), .val (.int (own_a1 i1)), .val (.int (own_a2 i1)), .val (.double d), .second, .val (.ref b365), .val (.ref b369), .val (.int (1 : Int32)), .val (.ref b665), .val (.ref b729), .val (.int (1 : Int32)), .unset, .unset] rfl ?_
          refine own_iconst X797 hx 390 rfl (hb hby at_389) (0 : Int32) rfl ?_
          refine own_istore X797 hx 392 rfl (hb hby at_390) #[.val (.int i0), .val (.int i1), .val (.int i2), .val (.double (9218868437227405312 : UInt64)), .second, .val (.int (1 : Int32)), .val (.int (1 : Int32)), .val (.int (own_k i0)), .val (.int f8), .val (.int (own_a0 i1)), .val (.int (own_a1 i1)), .val (.int (own_a2 i1)), .val (.double d), .second, .val (.ref b365), .val (.ref b369), .val (.int (1 : Int32)), .val (.ref b665), .val (.ref b729), .val (.int (1 : Int32)), .val (.int (0 : Int32)), .unset] rfl ?_
          refine own_aload X797 hx 394 rfl (hb hby at_392) rfl rfl ?_
          refine own_iload X797 hx 396 rfl (hb hby at_394) rfl ?_
          refine own_ldD X797 hx hZ e797 f802 ⟨by decide, by decide⟩ e0 rfl 397 rfl (hb hby at_396) ?_
          refine own_dload X797 hx 399 rfl (hb hby at_397) rfl ?_
          refine own_dcmp X797 hx 400 rfl (hb hby at_399) _ rfl ?_
          refine own_ifYes X797 hx 406 (hb hby at_400) ((if0 _ _).trans (tlt (own_cp nn0 hd hc808 .g)).2.2.1) (by decide) rfl ?_
          refine own_iload X797 hx 408 rfl (hb hby at_406) rfl ?_
          refine own_iconst X797 hx 409 rfl (hb hby at_408) (2 : Int32) rfl ?_
          refine own_icmpYes X797 hx 428 (hb hby at_409) (by decide) (by decide) rfl ?_
          refine own_iload X797 hx 430 rfl (hb hby at_428) rfl ?_
          refine own_iconst X797 hx 431 rfl (hb hby at_430) (3 : Int32) rfl ?_
          refine own_icmpYes X797 hx 450 (hb hby at_431) (by decide) (by decide) rfl ?_
          refine own_iloadN X797 hx 451 rfl (hb hby at_450) rfl ?_
          refine own_dload X797 hx 453 rfl (hb hby at_451) rfl ?_
          refine own_iload X797 hx 455 rfl (hb hby at_453) rfl ?_
          refine own_iload X797 hx 457 rfl (hb hby at_455) rfl ?_
          refine own_aload X797 hx 459 rfl (hb hby at_457) rfl rfl ?_
          refine own_aload X797 hx 461 rfl (hb hby at_459) rfl rfl ?_
          refine own_callS X797 hx hZ (y := (⟨"com/example/outpost/outpost/model/Distances", "keepNearer", "(IDII[D[I)Z"⟩ : MethodName)) hown (own_hw hw 9 rfl) (own_hw hw 10 rfl) (by decide) (rm_keep_1_1_0 l Z a0 hw [] i2 d b665 b729 k665 k729 (4652007308841189376 : UInt64) e0 (4652024901027233792 : UInt64) (4652033697120256000 : UInt64) (4652042493213278208 : UInt64) (4652051289306300416 : UInt64) (10 : Int32) (11 : Int32) (12 : Int32) (13 : Int32) (14 : Int32) (15 : Int32) h797 n0 z806 f804 f798 ne732 ge668 ge733 (own_cg hd nn0 hc808 .g)) (own_hw hw 12 rfl) (own_hw hw 11 rfl) (by decide) e797 (by rw [hml]; rfl) [(.int i2), (.double d), (.int (1 : Int32)), (.int (1 : Int32)), (.ref b665), (.ref b729)] 0 (by decide) (Nat.le_of_eq rfl) (by decide) (by decide) (lenOf own_pd2 rfl) rfl rfl 464 rfl (hb hby at_461) fun v809 T809 Lc809 X809 hQ809 => ?_
          obtain ⟨rfl, Nq809, Kq809, fu809, fw809⟩ := hQ809
          have N810 := Fr.app N807 Nq809
          have f811 := f799.keep Kq809
          have f812 := f800.keep Kq809
          have f813 := f801.keep Kq809 (ninS ne667 (ninS ne731 nin0))
          have f814 := f802.keep Kq809 (ninS ne666 (ninS ne730 nin0))
          have f815 := f803.keep Kq809
          have f817 := f805.keep Kq809
          have z819 := Nat.le_trans z806 Kq809.1
          show own_Go _ _ _ _ _ (State.setTop _ (mkF _ 464 _ [(.int (1 : Int32))]))
          refine own_istore X809 hx 466 rfl (hb hby at_464) #[.val (.int i0), .val (.int i1), .val (.int i2), .val (.double (9218868437227405312 : UInt64)), .second, .val (.int (1 : Int32)), .val (.int (1 : Int32)), .val (.int (own_k i0)), .val (.int f8), .val (.int (own_a0 i1)), .val (.int (own_a1 i1)), .val (.int (own_a2 i1)), .val (.double d), .second, .val (.ref b365), .val (.ref b369), .val (.int (1 : Int32)), .val (.ref b665), .val (.ref b729), .val (.int (1 : Int32)), .val (.int (0 : Int32)), .val (.int (1 : Int32))] rfl ?_
          refine own_iload X809 hx 468 rfl (hb hby at_466) rfl ?_
          refine own_iload X809 hx 470 rfl (hb hby at_468) rfl ?_
          refine own_icmpNo X809 hx 473 rfl (hb hby at_470) (by decide) ?_
          refine own_iconst X809 hx 474 rfl (hb hby at_473) (0 : Int32) rfl ?_
          refine own_iload X809 hx 476 rfl (hb hby at_474) rfl ?_
          refine own_iload X809 hx 478 rfl (hb hby at_476) rfl ?_
          refine own_iload X809 hx 480 rfl (hb hby at_478) rfl ?_
          refine own_iload X809 hx 482 rfl (hb hby at_480) rfl ?_
          refine own_dload X809 hx 484 rfl (hb hby at_482) rfl ?_
          refine own_iloadN X809 hx 485 rfl (hb hby at_484) rfl ?_
          refine own_aload X809 hx 487 rfl (hb hby at_485) rfl rfl ?_
          refine own_aload X809 hx 489 rfl (hb hby at_487) rfl rfl ?_
          refine own_aload X809 hx 491 rfl (hb hby at_489) rfl rfl ?_
          refine own_aload X809 hx 493 rfl (hb hby at_491) rfl rfl ?_
          refine own_callS X809 hx hZ (y := (⟨"com/example/outpost/outpost/model/DistancesKeepNearerPinLaw", "same", "(IIIIZDI[D[I[D[I)Z"⟩ : MethodName)) hown (own_hw hw 13 rfl) (own_hw hw 14 rfl) (by decide) (rm_same_A2 l Z a0 hw [] (0 : Int32) (1 : Int32) (1 : Int32) (0 : Int32) d i2 b365 b369 b665 b729 k365 k369 k665 k729 [(.double (4652007308841189376 : UInt64)), (.double e0), (.double (4652024901027233792 : UInt64)), (.double (4652033697120256000 : UInt64)), (.double (4652042493213278208 : UInt64)), (.double (4652051289306300416 : UInt64))] [(.int (10 : Int32)), (.int (11 : Int32)), (.int (12 : Int32)), (.int (13 : Int32)), (.int (14 : Int32)), (.int (15 : Int32))] [(.double (4652007308841189376 : UInt64)), (.double d), (.double (4652024901027233792 : UInt64)), (.double (4652033697120256000 : UInt64)), (.double (4652042493213278208 : UInt64)), (.double (4652051289306300416 : UInt64))] [(.int (10 : Int32)), (.int i2), (.int (12 : Int32)), (.int (13 : Int32)), (.int (14 : Int32)), (.int (15 : Int32))] (4652007308841189376 : UInt64) (10 : Int32) T809.heap n0 z819 f814 f813 fu809 fw809 (by decide) (by decide) rfl rfl (by decide) rfl rfl (own_self own_cst.1)) (own_hw hw 16 rfl) (own_hw hw 15 rfl) (by decide) rfl (by rw [hml]; rfl) [(.int (0 : Int32)), (.int (1 : Int32)), (.int (1 : Int32)), (.int (0 : Int32)), (.int (1 : Int32)), (.double d), (.int i2), (.ref b365), (.ref b369), (.ref b665), (.ref b729)] 0 (by decide) (Nat.le_of_eq rfl) (by decide) (by decide) (lenOf own_pd3 rfl) rfl rfl 496 rfl (hb hby at_493) fun v820 T820 Lc820 X820 hQ820 => ?_
          obtain ⟨rfl, Nq820, e820⟩ := hQ820
          have N821 := Fr.app N810 Nq820
          show own_Go _ _ _ _ _ (State.setTop _ (mkF _ 496 _ [(.int (1 : Int32))]))
          refine own_ifNo X820 hx 499 rfl (hb hby at_496) (by decide) ?_
          refine own_iconst X820 hx 500 rfl (hb hby at_499) (1 : Int32) rfl ?_
          refine own_iload X820 hx 502 rfl (hb hby at_500) rfl ?_
          refine own_iload X820 hx 504 rfl (hb hby at_502) rfl ?_
          refine own_iload X820 hx 506 rfl (hb hby at_504) rfl ?_
          refine own_iload X820 hx 508 rfl (hb hby at_506) rfl ?_
          refine own_dload X820 hx 510 rfl (hb hby at_508) rfl ?_
          refine own_iloadN X820 hx 511 rfl (hb hby at_510) rfl ?_
          refine own_aload X820 hx 513 rfl (hb hby at_511) rfl rfl ?_
          refine own_aload X820 hx 515 rfl (hb hby at_513) rfl rfl ?_
          refine own_aload X820 hx 517 rfl (hb hby at_515) rfl rfl ?_
          refine own_aload X820 hx 519 rfl (hb hby at_517) rfl rfl ?_
          refine own_callS X820 hx hZ (y := (⟨"com/example/outpost/outpost/model/DistancesKeepNearerPinLaw", "same", "(IIIIZDI[D[I[D[I)Z"⟩ : MethodName)) hown (own_hw hw 13 rfl) (own_hw hw 14 rfl) (by decide) (rm_same_C l Z a0 hw [] (1 : Int32) (1 : Int32) (1 : Int32) (0 : Int32) d i2 b365 b369 b665 b729 k365 k369 k665 k729 [(.double (4652007308841189376 : UInt64)), (.double e0), (.double (4652024901027233792 : UInt64)), (.double (4652033697120256000 : UInt64)), (.double (4652042493213278208 : UInt64)), (.double (4652051289306300416 : UInt64))] [(.int (10 : Int32)), (.int (11 : Int32)), (.int (12 : Int32)), (.int (13 : Int32)), (.int (14 : Int32)), (.int (15 : Int32))] [(.double (4652007308841189376 : UInt64)), (.double d), (.double (4652024901027233792 : UInt64)), (.double (4652033697120256000 : UInt64)), (.double (4652042493213278208 : UInt64)), (.double (4652051289306300416 : UInt64))] [(.int (10 : Int32)), (.int i2), (.int (12 : Int32)), (.int (13 : Int32)), (.int (14 : Int32)), (.int (15 : Int32))] d i2 T809.heap n0 z819 f814 f813 fu809 fw809 (by decide) (by decide) (by decide) (by decide) rfl rfl (by decide) rfl rfl (own_self hd)) (own_hw hw 16 rfl) (own_hw hw 15 rfl) (by decide) e820 (by rw [hml]; rfl) [(.int (1 : Int32)), (.int (1 : Int32)), (.int (1 : Int32)), (.int (0 : Int32)), (.int (1 : Int32)), (.double d), (.int i2), (.ref b365), (.ref b369), (.ref b665), (.ref b729)] 0 (by decide) (Nat.le_of_eq rfl) (by decide) (by decide) (lenOf own_pd3 rfl) rfl rfl 522 rfl (hb hby at_519) fun v822 T822 Lc822 X822 hQ822 => ?_
          obtain ⟨rfl, Nq822, e822⟩ := hQ822
          have N823 := Fr.app N821 Nq822
          show own_Go _ _ _ _ _ (State.setTop _ (mkF _ 522 _ [(.int (1 : Int32))]))
          refine own_ifNo X822 hx 525 rfl (hb hby at_522) (by decide) ?_
          refine own_iconst X822 hx 526 rfl (hb hby at_525) (2 : Int32) rfl ?_
          refine own_iload X822 hx 528 rfl (hb hby at_526) rfl ?_
          refine own_iload X822 hx 530 rfl (hb hby at_528) rfl ?_
          refine own_iload X822 hx 532 rfl (hb hby at_530) rfl ?_
          refine own_iload X822 hx 534 rfl (hb hby at_532) rfl ?_
          refine own_dload X822 hx 536 rfl (hb hby at_534) rfl ?_
          refine own_iloadN X822 hx 537 rfl (hb hby at_536) rfl ?_
          refine own_aload X822 hx 539 rfl (hb hby at_537) rfl rfl ?_
          refine own_aload X822 hx 541 rfl (hb hby at_539) rfl rfl ?_
          refine own_aload X822 hx 543 rfl (hb hby at_541) rfl rfl ?_
          refine own_aload X822 hx 545 rfl (hb hby at_543) rfl rfl ?_
          refine own_callS X822 hx hZ (y := (⟨"com/example/outpost/outpost/model/DistancesKeepNearerPinLaw", "same", "(IIIIZDI[D[I[D[I)Z"⟩ : MethodName)) hown (own_hw hw 13 rfl) (own_hw hw 14 rfl) (by decide) (rm_same_A3 l Z a0 hw [] (2 : Int32) (1 : Int32) (1 : Int32) (0 : Int32) d i2 b365 b369 b665 b729 k365 k369 k665 k729 [(.double (4652007308841189376 : UInt64)), (.double e0), (.double (4652024901027233792 : UInt64)), (.double (4652033697120256000 : UInt64)), (.double (4652042493213278208 : UInt64)), (.double (4652051289306300416 : UInt64))] [(.int (10 : Int32)), (.int (11 : Int32)), (.int (12 : Int32)), (.int (13 : Int32)), (.int (14 : Int32)), (.int (15 : Int32))] [(.double (4652007308841189376 : UInt64)), (.double d), (.double (4652024901027233792 : UInt64)), (.double (4652033697120256000 : UInt64)), (.double (4652042493213278208 : UInt64)), (.double (4652051289306300416 : UInt64))] [(.int (10 : Int32)), (.int i2), (.int (12 : Int32)), (.int (13 : Int32)), (.int (14 : Int32)), (.int (15 : Int32))] (4652024901027233792 : UInt64) (12 : Int32) T809.heap n0 z819 f814 f813 fu809 fw809 (by decide) (by decide) (by decide) rfl rfl (by decide) rfl rfl (own_self own_cst.2.2.1)) (own_hw hw 16 rfl) (own_hw hw 15 rfl) (by decide) e822 (by rw [hml]; rfl) [(.int (2 : Int32)), (.int (1 : Int32)), (.int (1 : Int32)), (.int (0 : Int32)), (.int (1 : Int32)), (.double d), (.int i2), (.ref b365), (.ref b369), (.ref b665), (.ref b729)] 0 (by decide) (Nat.le_of_eq rfl) (by decide) (by decide) (lenOf own_pd3 rfl) rfl rfl 548 rfl (hb hby at_545) fun v824 T824 Lc824 X824 hQ824 => ?_
          obtain ⟨rfl, Nq824, e824⟩ := hQ824
          have N825 := Fr.app N823 Nq824
          show own_Go _ _ _ _ _ (State.setTop _ (mkF _ 548 _ [(.int (1 : Int32))]))
          refine own_ifNo X824 hx 551 rfl (hb hby at_548) (by decide) ?_
          refine own_iconst X824 hx 552 rfl (hb hby at_551) (3 : Int32) rfl ?_
          refine own_iload X824 hx 554 rfl (hb hby at_552) rfl ?_
          refine own_iload X824 hx 556 rfl (hb hby at_554) rfl ?_
          refine own_iload X824 hx 558 rfl (hb hby at_556) rfl ?_
          refine own_iload X824 hx 560 rfl (hb hby at_558) rfl ?_
          refine own_dload X824 hx 562 rfl (hb hby at_560) rfl ?_
          refine own_iloadN X824 hx 563 rfl (hb hby at_562) rfl ?_
          refine own_aload X824 hx 565 rfl (hb hby at_563) rfl rfl ?_
          refine own_aload X824 hx 567 rfl (hb hby at_565) rfl rfl ?_
          refine own_aload X824 hx 569 rfl (hb hby at_567) rfl rfl ?_
          refine own_aload X824 hx 571 rfl (hb hby at_569) rfl rfl ?_
          refine own_callS X824 hx hZ (y := (⟨"com/example/outpost/outpost/model/DistancesKeepNearerPinLaw", "same", "(IIIIZDI[D[I[D[I)Z"⟩ : MethodName)) hown (own_hw hw 13 rfl) (own_hw hw 14 rfl) (by decide) (rm_same_A3 l Z a0 hw [] (3 : Int32) (1 : Int32) (1 : Int32) (0 : Int32) d i2 b365 b369 b665 b729 k365 k369 k665 k729 [(.double (4652007308841189376 : UInt64)), (.double e0), (.double (4652024901027233792 : UInt64)), (.double (4652033697120256000 : UInt64)), (.double (4652042493213278208 : UInt64)), (.double (4652051289306300416 : UInt64))] [(.int (10 : Int32)), (.int (11 : Int32)), (.int (12 : Int32)), (.int (13 : Int32)), (.int (14 : Int32)), (.int (15 : Int32))] [(.double (4652007308841189376 : UInt64)), (.double d), (.double (4652024901027233792 : UInt64)), (.double (4652033697120256000 : UInt64)), (.double (4652042493213278208 : UInt64)), (.double (4652051289306300416 : UInt64))] [(.int (10 : Int32)), (.int i2), (.int (12 : Int32)), (.int (13 : Int32)), (.int (14 : Int32)), (.int (15 : Int32))] (4652033697120256000 : UInt64) (13 : Int32) T809.heap n0 z819 f814 f813 fu809 fw809 (by decide) (by decide) (by decide) rfl rfl (by decide) rfl rfl (own_self own_cst.2.2.2.1)) (own_hw hw 16 rfl) (own_hw hw 15 rfl) (by decide) e824 (by rw [hml]; rfl) [(.int (3 : Int32)), (.int (1 : Int32)), (.int (1 : Int32)), (.int (0 : Int32)), (.int (1 : Int32)), (.double d), (.int i2), (.ref b365), (.ref b369), (.ref b665), (.ref b729)] 0 (by decide) (Nat.le_of_eq rfl) (by decide) (by decide) (lenOf own_pd3 rfl) rfl rfl 574 rfl (hb hby at_571) fun v826 T826 Lc826 X826 hQ826 => ?_
          obtain ⟨rfl, Nq826, e826⟩ := hQ826
          have N827 := Fr.app N825 Nq826
          show own_Go _ _ _ _ _ (State.setTop _ (mkF _ 574 _ [(.int (1 : Int32))]))
          refine own_ifNo X826 hx 577 rfl (hb hby at_574) (by decide) ?_
          refine own_iconst X826 hx 578 rfl (hb hby at_577) (4 : Int32) rfl ?_
          refine own_iload X826 hx 580 rfl (hb hby at_578) rfl ?_
          refine own_iload X826 hx 582 rfl (hb hby at_580) rfl ?_
          refine own_iload X826 hx 584 rfl (hb hby at_582) rfl ?_
          refine own_iload X826 hx 586 rfl (hb hby at_584) rfl ?_
          refine own_dload X826 hx 588 rfl (hb hby at_586) rfl ?_
          refine own_iloadN X826 hx 589 rfl (hb hby at_588) rfl ?_
          refine own_aload X826 hx 591 rfl (hb hby at_589) rfl rfl ?_
          refine own_aload X826 hx 593 rfl (hb hby at_591) rfl rfl ?_
          refine own_aload X826 hx 595 rfl (hb hby at_593) rfl rfl ?_
          refine own_aload X826 hx 597 rfl (hb hby at_595) rfl rfl ?_
          refine own_callS X826 hx hZ (y := (⟨"com/example/outpost/outpost/model/DistancesKeepNearerPinLaw", "same", "(IIIIZDI[D[I[D[I)Z"⟩ : MethodName)) hown (own_hw hw 13 rfl) (own_hw hw 14 rfl) (by decide) (rm_same_A3 l Z a0 hw [] (4 : Int32) (1 : Int32) (1 : Int32) (0 : Int32) d i2 b365 b369 b665 b729 k365 k369 k665 k729 [(.double (4652007308841189376 : UInt64)), (.double e0), (.double (4652024901027233792 : UInt64)), (.double (4652033697120256000 : UInt64)), (.double (4652042493213278208 : UInt64)), (.double (4652051289306300416 : UInt64))] [(.int (10 : Int32)), (.int (11 : Int32)), (.int (12 : Int32)), (.int (13 : Int32)), (.int (14 : Int32)), (.int (15 : Int32))] [(.double (4652007308841189376 : UInt64)), (.double d), (.double (4652024901027233792 : UInt64)), (.double (4652033697120256000 : UInt64)), (.double (4652042493213278208 : UInt64)), (.double (4652051289306300416 : UInt64))] [(.int (10 : Int32)), (.int i2), (.int (12 : Int32)), (.int (13 : Int32)), (.int (14 : Int32)), (.int (15 : Int32))] (4652042493213278208 : UInt64) (14 : Int32) T809.heap n0 z819 f814 f813 fu809 fw809 (by decide) (by decide) (by decide) rfl rfl (by decide) rfl rfl (own_self own_cst.2.2.2.2.1)) (own_hw hw 16 rfl) (own_hw hw 15 rfl) (by decide) e826 (by rw [hml]; rfl) [(.int (4 : Int32)), (.int (1 : Int32)), (.int (1 : Int32)), (.int (0 : Int32)), (.int (1 : Int32)), (.double d), (.int i2), (.ref b365), (.ref b369), (.ref b665), (.ref b729)] 0 (by decide) (Nat.le_of_eq rfl) (by decide) (by decide) (lenOf own_pd3 rfl) rfl rfl 600 rfl (hb hby at_597) fun v828 T828 Lc828 X828 hQ828 => ?_
          obtain ⟨rfl, Nq828, e828⟩ := hQ828
          have N829 := Fr.app N827 Nq828
          show own_Go _ _ _ _ _ (State.setTop _ (mkF _ 600 _ [(.int (1 : Int32))]))
          refine own_ifNo X828 hx 603 rfl (hb hby at_600) (by decide) ?_
          refine own_iconst X828 hx 604 rfl (hb hby at_603) (5 : Int32) rfl ?_
          refine own_iload X828 hx 606 rfl (hb hby at_604) rfl ?_
          refine own_iload X828 hx 608 rfl (hb hby at_606) rfl ?_
          refine own_iload X828 hx 610 rfl (hb hby at_608) rfl ?_
          refine own_iload X828 hx 612 rfl (hb hby at_610) rfl ?_
          refine own_dload X828 hx 614 rfl (hb hby at_612) rfl ?_
          refine own_iloadN X828 hx 615 rfl (hb hby at_614) rfl ?_
          refine own_aload X828 hx 617 rfl (hb hby at_615) rfl rfl ?_
          refine own_aload X828 hx 619 rfl (hb hby at_617) rfl rfl ?_
          refine own_aload X828 hx 621 rfl (hb hby at_619) rfl rfl ?_
          refine own_aload X828 hx 623 rfl (hb hby at_621) rfl rfl ?_
          refine own_callS X828 hx hZ (y := (⟨"com/example/outpost/outpost/model/DistancesKeepNearerPinLaw", "same", "(IIIIZDI[D[I[D[I)Z"⟩ : MethodName)) hown (own_hw hw 13 rfl) (own_hw hw 14 rfl) (by decide) (rm_same_A3 l Z a0 hw [] (5 : Int32) (1 : Int32) (1 : Int32) (0 : Int32) d i2 b365 b369 b665 b729 k365 k369 k665 k729 [(.double (4652007308841189376 : UInt64)), (.double e0), (.double (4652024901027233792 : UInt64)), (.double (4652033697120256000 : UInt64)), (.double (4652042493213278208 : UInt64)), (.double (4652051289306300416 : UInt64))] [(.int (10 : Int32)), (.int (11 : Int32)), (.int (12 : Int32)), (.int (13 : Int32)), (.int (14 : Int32)), (.int (15 : Int32))] [(.double (4652007308841189376 : UInt64)), (.double d), (.double (4652024901027233792 : UInt64)), (.double (4652033697120256000 : UInt64)), (.double (4652042493213278208 : UInt64)), (.double (4652051289306300416 : UInt64))] [(.int (10 : Int32)), (.int i2), (.int (12 : Int32)), (.int (13 : Int32)), (.int (14 : Int32)), (.int (15 : Int32))] (4652051289306300416 : UInt64) (15 : Int32) T809.heap n0 z819 f814 f813 fu809 fw809 (by decide) (by decide) (by decide) rfl rfl (by decide) rfl rfl (own_self own_cst.2.2.2.2.2)) (own_hw hw 16 rfl) (own_hw hw 15 rfl) (by decide) e828 (by rw [hml]; rfl) [(.int (5 : Int32)), (.int (1 : Int32)), (.int (1 : Int32)), (.int (0 : Int32)), (.int (1 : Int32)), (.double d), (.int i2), (.ref b365), (.ref b369), (.ref b665), (.ref b729)] 0 (by decide) (Nat.le_of_eq rfl) (by decide) (by decide) (lenOf own_pd3 rfl) rfl rfl 626 rfl (hb hby at_623) fun v830 T830 Lc830 X830 hQ830 => ?_
          obtain ⟨rfl, Nq830, e830⟩ := hQ830
          have N831 := Fr.app N829 Nq830
          show own_Go _ _ _ _ _ (State.setTop _ (mkF _ 626 _ [(.int (1 : Int32))]))
          refine own_ifNo X830 hx 629 rfl (hb hby at_626) (by decide) ?_
          refine own_iconst X830 hx 630 rfl (hb hby at_629) (1 : Int32) rfl ?_
          refine own_goto X830 hx 634 (hb hby at_630) (by decide) rfl ?_
          refine own_ret X830 (some (.int (1 : Int32))) (fun h => by rw [Bd.returns] at h; cases h) Bd.notSynchronized (by decide) (by decide) ?_ (fun fs hr => retN X830 hx (t := .boolean) Bd.returns (by simp) (hb hby at_634) hr)
          show Q_rm0 Z i0 i1 i2 h0 n0 _ T830.heap _
          rw [e830]
          exact ⟨rfl, N831⟩
        ·
          refine own_dcmp X797 hx 379 rfl (hb hby at_378) _ rfl ?_
          refine own_ifYes X797 hx 386 (hb hby at_379) ((if0 _ _).trans (flt (own_cmp_ge hd nn0 (Int.not_lt.mp hc808) .g)).2.1) (by decide) rfl ?_
          refine own_iconst X797 hx 387 rfl (hb hby at_386) (0 : Int32) rfl ?_
          refine own_istore X797 hx 389 rfl (hb hby at_387) #[.val (.int i0), .val (.int i1), .val (.int i2), .val (.double (9218868437227405312 : UInt64)), .second, .val (.int (1 : Int32)), .val (.int (1 : Int32)), .val (.int (own_k i0)), .val (.int f8), .val (.int (own_a0 i1)), .val (.int (own_a1 i1)), .val (.int (own_a2 i1)), .val (.double d), .second, .val (.ref b365), .val (.ref b369), .val (.int (1 : Int32)), .val (.ref b665), .val (.ref b729), .val (.int (0 : Int32)), .unset, .unset] rfl ?_
          refine own_iconst X797 hx 390 rfl (hb hby at_389) (0 : Int32) rfl ?_
          refine own_istore X797 hx 392 rfl (hb hby at_390) #[.val (.int i0), .val (.int i1), .val (.int i2), .val (.double (9218868437227405312 : UInt64)), .second, .val (.int (1 : Int32)), .val (.int (1 : Int32)), .val (.int (own_k i0)), .val (.int f8), .val (.int (own_a0 i1)), .val (.int (own_a1 i1)), .val (.int (own_a2 i1)), .val (.double d), .second, .val (.ref b365), .val (.ref b369), .val (.int (1 : Int32)), .val (.ref b665), .val (.ref b729), .val (.int (0 : Int32)), .val (.int (0 : Int32)), .unset] rfl ?_
          refine own_aload X797 hx 394 rfl (hb hby at_392) rfl rfl ?_
          refine own_iload X797 hx 396 rfl (hb hby at_394) rfl ?_
          refine own_ldD X797 hx hZ e797 f802 ⟨by decide, by decide⟩ e0 rfl 397 rfl (hb hby at_396) ?_
          refine own_dload X797 hx 399 rfl (hb hby at_397) rfl ?_
          refine own_dcmp X797 hx 400 rfl (hb hby at_399) _ rfl ?_
          refine own_ifNo X797 hx 403 rfl (hb hby at_400) ((if0 _ _).trans (flt (own_cmp_le nn0 hd (Int.not_lt.mp hc808) .g)).2.2.1) ?_
          refine own_iinc X797 hx 406 rfl (hb hby at_403) rfl #[.val (.int i0), .val (.int i1), .val (.int i2), .val (.double (9218868437227405312 : UInt64)), .second, .val (.int (1 : Int32)), .val (.int (1 : Int32)), .val (.int (own_k i0)), .val (.int f8), .val (.int (own_a0 i1)), .val (.int (own_a1 i1)), .val (.int (own_a2 i1)), .val (.double d), .second, .val (.ref b365), .val (.ref b369), .val (.int (1 : Int32)), .val (.ref b665), .val (.ref b729), .val (.int (0 : Int32)), .val (.int (1 : Int32)), .unset] rfl ?_
          refine own_iload X797 hx 408 rfl (hb hby at_406) rfl ?_
          refine own_iconst X797 hx 409 rfl (hb hby at_408) (2 : Int32) rfl ?_
          refine own_icmpYes X797 hx 428 (hb hby at_409) (by decide) (by decide) rfl ?_
          refine own_iload X797 hx 430 rfl (hb hby at_428) rfl ?_
          refine own_iconst X797 hx 431 rfl (hb hby at_430) (3 : Int32) rfl ?_
          refine own_icmpYes X797 hx 450 (hb hby at_431) (by decide) (by decide) rfl ?_
          refine own_iloadN X797 hx 451 rfl (hb hby at_450) rfl ?_
          refine own_dload X797 hx 453 rfl (hb hby at_451) rfl ?_
          refine own_iload X797 hx 455 rfl (hb hby at_453) rfl ?_
          refine own_iload X797 hx 457 rfl (hb hby at_455) rfl ?_
          refine own_aload X797 hx 459 rfl (hb hby at_457) rfl rfl ?_
          refine own_aload X797 hx 461 rfl (hb hby at_459) rfl rfl ?_
          refine own_callS X797 hx hZ (y := (⟨"com/example/outpost/outpost/model/Distances", "keepNearer", "(IDII[D[I)Z"⟩ : MethodName)) hown (own_hw hw 9 rfl) (own_hw hw 10 rfl) (by decide) (rm_keep_1_1_n l Z a0 hw [] i2 d b665 b729 k665 k729 (4652007308841189376 : UInt64) e0 (4652024901027233792 : UInt64) (4652033697120256000 : UInt64) (4652042493213278208 : UInt64) (4652051289306300416 : UInt64) (10 : Int32) (11 : Int32) (12 : Int32) (13 : Int32) (14 : Int32) (15 : Int32) h797 n0 z806 f804 f798 ne732 ge668 ge733 (own_cmp_ge hd nn0 (Int.not_lt.mp hc808) .g)) (own_hw hw 12 rfl) (own_hw hw 11 rfl) (by decide) e797 (by rw [hml]; rfl) [(.int i2), (.double d), (.int (1 : Int32)), (.int (1 : Int32)), (.ref b665), (.ref b729)] 0 (by decide) (Nat.le_of_eq rfl) (by decide) (by decide) (lenOf own_pd2 rfl) rfl rfl 464 rfl (hb hby at_461) fun v832 T832 Lc832 X832 hQ832 => ?_
          obtain ⟨rfl, Nq832, Kq832, fu832, fw832⟩ := hQ832
          have N833 := Fr.app N807 Nq832
          have f834 := f799.keep Kq832
          have f835 := f800.keep Kq832
          have f836 := f801.keep Kq832 (ninS ne667 (ninS ne731 nin0))
          have f837 := f802.keep Kq832 (ninS ne666 (ninS ne730 nin0))
          have f838 := f803.keep Kq832
          have f840 := f805.keep Kq832
          have z842 := Nat.le_trans z806 Kq832.1
          show own_Go _ _ _ _ _ (State.setTop _ (mkF _ 464 _ [(.int (0 : Int32))]))
          refine own_istore X832 hx 466 rfl (hb hby at_464) #[.val (.int i0), .val (.int i1), .val (.int i2), .val (.double (9218868437227405312 : UInt64)), .second, .val (.int (1 : Int32)), .val (.int (1 : Int32)), .val (.int (own_k i0)), .val (.int f8), .val (.int (own_a0 i1)), .val (.int (own_a1 i1)), .val (.int (own_a2 i1)), .val (.double d), .second, .val (.ref b365), .val (.ref b369), .val (.int (1 : Int32)), .val (.ref b665), .val (.ref b729), .val (.int (0 : Int32)), .val (.int (1 : Int32)), .val (.int (0 : Int32))] rfl ?_
          refine own_iload X832 hx 468 rfl (hb hby at_466) rfl ?_
          refine own_iload X832 hx 470 rfl (hb hby at_468) rfl ?_
          refine own_icmpNo X832 hx 473 rfl (hb hby at_470) (by decide) ?_
          refine own_iconst X832 hx 474 rfl (hb hby at_473) (0 : Int32) rfl ?_
          refine own_iload X832 hx 476 rfl (hb hby at_474) rfl ?_
          refine own_iload X832 hx 478 rfl (hb hby at_476) rfl ?_
          refine own_iload X832 hx 480 rfl (hb hby at_478) rfl ?_
          refine own_iload X832 hx 482 rfl (hb hby at_480) rfl ?_
          refine own_dload X832 hx 484 rfl (hb hby at_482) rfl ?_
          refine own_iloadN X832 hx 485 rfl (hb hby at_484) rfl ?_
          refine own_aload X832 hx 487 rfl (hb hby at_485) rfl rfl ?_
          refine own_aload X832 hx 489 rfl (hb hby at_487) rfl rfl ?_
          refine own_aload X832 hx 491 rfl (hb hby at_489) rfl rfl ?_
          refine own_aload X832 hx 493 rfl (hb hby at_491) rfl rfl ?_
          refine own_callS X832 hx hZ (y := (⟨"com/example/outpost/outpost/model/DistancesKeepNearerPinLaw", "same", "(IIIIZDI[D[I[D[I)Z"⟩ : MethodName)) hown (own_hw hw 13 rfl) (own_hw hw 14 rfl) (by decide) (rm_same_A1 l Z a0 hw [] (0 : Int32) (1 : Int32) (1 : Int32) (1 : Int32) d i2 b365 b369 b665 b729 k365 k369 k665 k729 [(.double (4652007308841189376 : UInt64)), (.double e0), (.double (4652024901027233792 : UInt64)), (.double (4652033697120256000 : UInt64)), (.double (4652042493213278208 : UInt64)), (.double (4652051289306300416 : UInt64))] [(.int (10 : Int32)), (.int (11 : Int32)), (.int (12 : Int32)), (.int (13 : Int32)), (.int (14 : Int32)), (.int (15 : Int32))] [(.double (4652007308841189376 : UInt64)), (.double e0), (.double (4652024901027233792 : UInt64)), (.double (4652033697120256000 : UInt64)), (.double (4652042493213278208 : UInt64)), (.double (4652051289306300416 : UInt64))] [(.int (10 : Int32)), (.int (11 : Int32)), (.int (12 : Int32)), (.int (13 : Int32)), (.int (14 : Int32)), (.int (15 : Int32))] (4652007308841189376 : UInt64) (10 : Int32) T832.heap n0 z842 f837 f836 fu832 fw832 (by decide) rfl rfl (by decide) rfl rfl (own_self own_cst.1)) (own_hw hw 16 rfl) (own_hw hw 15 rfl) (by decide) rfl (by rw [hml]; rfl) [(.int (0 : Int32)), (.int (1 : Int32)), (.int (1 : Int32)), (.int (1 : Int32)), (.int (0 : Int32)), (.double d), (.int i2), (.ref b365), (.ref b369), (.ref b665), (.ref b729)] 0 (by decide) (Nat.le_of_eq rfl) (by decide) (by decide) (lenOf own_pd3 rfl) rfl rfl 496 rfl (hb hby at_493) fun v843 T843 Lc843 X843 hQ843 => ?_
          obtain ⟨rfl, Nq843, e843⟩ := hQ843
          have N844 := Fr.app N833 Nq843
          show own_Go _ _ _ _ _ (State.setTop _ (mkF _ 496 _ [(.int (1 : Int32))]))
          refine own_ifNo X843 hx 499 rfl (hb hby at_496) (by decide) ?_
          refine own_iconst X843 hx 500 rfl (hb hby at_499) (1 : Int32) rfl ?_
          refine own_iload X843 hx 502 rfl (hb hby at_500) rfl ?_
          refine own_iload X843 hx 504 rfl (hb hby at_502) rfl ?_
          refine own_iload X843 hx 506 rfl (hb hby at_504) rfl ?_
          refine own_iload X843 hx 508 rfl (hb hby at_506) rfl ?_
          refine own_dload X843 hx 510 rfl (hb hby at_508) rfl ?_
          refine own_iloadN X843 hx 511 rfl (hb hby at_510) rfl ?_
          refine own_aload X843 hx 513 rfl (hb hby at_511) rfl rfl ?_
          refine own_aload X843 hx 515 rfl (hb hby at_513) rfl rfl ?_
          refine own_aload X843 hx 517 rfl (hb hby at_515) rfl rfl ?_
          refine own_aload X843 hx 519 rfl (hb hby at_517) rfl rfl ?_
          refine own_callS X843 hx hZ (y := (⟨"com/example/outpost/outpost/model/DistancesKeepNearerPinLaw", "same", "(IIIIZDI[D[I[D[I)Z"⟩ : MethodName)) hown (own_hw hw 13 rfl) (own_hw hw 14 rfl) (by decide) (rm_same_A1 l Z a0 hw [] (1 : Int32) (1 : Int32) (1 : Int32) (1 : Int32) d i2 b365 b369 b665 b729 k365 k369 k665 k729 [(.double (4652007308841189376 : UInt64)), (.double e0), (.double (4652024901027233792 : UInt64)), (.double (4652033697120256000 : UInt64)), (.double (4652042493213278208 : UInt64)), (.double (4652051289306300416 : UInt64))] [(.int (10 : Int32)), (.int (11 : Int32)), (.int (12 : Int32)), (.int (13 : Int32)), (.int (14 : Int32)), (.int (15 : Int32))] [(.double (4652007308841189376 : UInt64)), (.double e0), (.double (4652024901027233792 : UInt64)), (.double (4652033697120256000 : UInt64)), (.double (4652042493213278208 : UInt64)), (.double (4652051289306300416 : UInt64))] [(.int (10 : Int32)), (.int (11 : Int32)), (.int (12 : Int32)), (.int (13 : Int32)), (.int (14 : Int32)), (.int (15 : Int32))] e0 (11 : Int32) T832.heap n0 z842 f837 f836 fu832 fw832 (by decide) rfl rfl (by decide) rfl rfl (own_self nn0)) (own_hw hw 16 rfl) (own_hw hw 15 rfl) (by decide) e843 (by rw [hml]; rfl) [(.int (1 : Int32)), (.int (1 : Int32)), (.int (1 : Int32)), (.int (1 : Int32)), (.int (0 : Int32)), (.double d), (.int i2), (.ref b365), (.ref b369), (.ref b665), (.ref b729)] 0 (by decide) (Nat.le_of_eq rfl) (by decide) (by decide) (lenOf own_pd3 rfl) rfl rfl 522 rfl (hb hby at_519) fun v845 T845 Lc845 X845 hQ845 => ?_
          obtain ⟨rfl, Nq845, e845⟩ := hQ845
          have N846 := Fr.app N844 Nq845
          show own_Go _ _ _ _ _ (State.setTop _ (mkF _ 522 _ [(.int (1 : Int32))]))
          refine own_ifNo X845 hx 525 rfl (hb hby at_522) (by decide) ?_
          refine own_iconst X845 hx 526 rfl (hb hby at_525) (2 : Int32) rfl ?_
          refine own_iload X845 hx 528 rfl (hb hby at_526) rfl ?_
          refine own_iload X845 hx 530 rfl (hb hby at_528) rfl ?_
          refine own_iload X845 hx 532 rfl (hb hby at_530) rfl ?_
          refine own_iload X845 hx 534 rfl (hb hby at_532) rfl ?_
          refine own_dload X845 hx 536 rfl (hb hby at_534) rfl ?_
          refine own_iloadN X845 hx 537 rfl (hb hby at_536) rfl ?_
          refine own_aload X845 hx 539 rfl (hb hby at_537) rfl rfl ?_
          refine own_aload X845 hx 541 rfl (hb hby at_539) rfl rfl ?_
          refine own_aload X845 hx 543 rfl (hb hby at_541) rfl rfl ?_
          refine own_aload X845 hx 545 rfl (hb hby at_543) rfl rfl ?_
          refine own_callS X845 hx hZ (y := (⟨"com/example/outpost/outpost/model/DistancesKeepNearerPinLaw", "same", "(IIIIZDI[D[I[D[I)Z"⟩ : MethodName)) hown (own_hw hw 13 rfl) (own_hw hw 14 rfl) (by decide) (rm_same_A1 l Z a0 hw [] (2 : Int32) (1 : Int32) (1 : Int32) (1 : Int32) d i2 b365 b369 b665 b729 k365 k369 k665 k729 [(.double (4652007308841189376 : UInt64)), (.double e0), (.double (4652024901027233792 : UInt64)), (.double (4652033697120256000 : UInt64)), (.double (4652042493213278208 : UInt64)), (.double (4652051289306300416 : UInt64))] [(.int (10 : Int32)), (.int (11 : Int32)), (.int (12 : Int32)), (.int (13 : Int32)), (.int (14 : Int32)), (.int (15 : Int32))] [(.double (4652007308841189376 : UInt64)), (.double e0), (.double (4652024901027233792 : UInt64)), (.double (4652033697120256000 : UInt64)), (.double (4652042493213278208 : UInt64)), (.double (4652051289306300416 : UInt64))] [(.int (10 : Int32)), (.int (11 : Int32)), (.int (12 : Int32)), (.int (13 : Int32)), (.int (14 : Int32)), (.int (15 : Int32))] (4652024901027233792 : UInt64) (12 : Int32) T832.heap n0 z842 f837 f836 fu832 fw832 (by decide) rfl rfl (by decide) rfl rfl (own_self own_cst.2.2.1)) (own_hw hw 16 rfl) (own_hw hw 15 rfl) (by decide) e845 (by rw [hml]; rfl) [(.int (2 : Int32)), (.int (1 : Int32)), (.int (1 : Int32)), (.int (1 : Int32)), (.int (0 : Int32)), (.double d), (.int i2), (.ref b365), (.ref b369), (.ref b665), (.ref b729)] 0 (by decide) (Nat.le_of_eq rfl) (by decide) (by decide) (lenOf own_pd3 rfl) rfl rfl 548 rfl (hb hby at_545) fun v847 T847 Lc847 X847 hQ847 => ?_
          obtain ⟨rfl, Nq847, e847⟩ := hQ847
          have N848 := Fr.app N846 Nq847
          show own_Go _ _ _ _ _ (State.setTop _ (mkF _ 548 _ [(.int (1 : Int32))]))
          refine own_ifNo X847 hx 551 rfl (hb hby at_548) (by decide) ?_
          refine own_iconst X847 hx 552 rfl (hb hby at_551) (3 : Int32) rfl ?_
          refine own_iload X847 hx 554 rfl (hb hby at_552) rfl ?_
          refine own_iload X847 hx 556 rfl (hb hby at_554) rfl ?_
          refine own_iload X847 hx 558 rfl (hb hby at_556) rfl ?_
          refine own_iload X847 hx 560 rfl (hb hby at_558) rfl ?_
          refine own_dload X847 hx 562 rfl (hb hby at_560) rfl ?_
          refine own_iloadN X847 hx 563 rfl (hb hby at_562) rfl ?_
          refine own_aload X847 hx 565 rfl (hb hby at_563) rfl rfl ?_
          refine own_aload X847 hx 567 rfl (hb hby at_565) rfl rfl ?_
          refine own_aload X847 hx 569 rfl (hb hby at_567) rfl rfl ?_
          refine own_aload X847 hx 571 rfl (hb hby at_569) rfl rfl ?_
          refine own_callS X847 hx hZ (y := (⟨"com/example/outpost/outpost/model/DistancesKeepNearerPinLaw", "same", "(IIIIZDI[D[I[D[I)Z"⟩ : MethodName)) hown (own_hw hw 13 rfl) (own_hw hw 14 rfl) (by decide) (rm_same_A1 l Z a0 hw [] (3 : Int32) (1 : Int32) (1 : Int32) (1 : Int32) d i2 b365 b369 b665 b729 k365 k369 k665 k729 [(.double (4652007308841189376 : UInt64)), (.double e0), (.double (4652024901027233792 : UInt64)), (.double (4652033697120256000 : UInt64)), (.double (4652042493213278208 : UInt64)), (.double (4652051289306300416 : UInt64))] [(.int (10 : Int32)), (.int (11 : Int32)), (.int (12 : Int32)), (.int (13 : Int32)), (.int (14 : Int32)), (.int (15 : Int32))] [(.double (4652007308841189376 : UInt64)), (.double e0), (.double (4652024901027233792 : UInt64)), (.double (4652033697120256000 : UInt64)), (.double (4652042493213278208 : UInt64)), (.double (4652051289306300416 : UInt64))] [(.int (10 : Int32)), (.int (11 : Int32)), (.int (12 : Int32)), (.int (13 : Int32)), (.int (14 : Int32)), (.int (15 : Int32))] (4652033697120256000 : UInt64) (13 : Int32) T832.heap n0 z842 f837 f836 fu832 fw832 (by decide) rfl rfl (by decide) rfl rfl (own_self own_cst.2.2.2.1)) (own_hw hw 16 rfl) (own_hw hw 15 rfl) (by decide) e847 (by rw [hml]; rfl) [(.int (3 : Int32)), (.int (1 : Int32)), (.int (1 : Int32)), (.int (1 : Int32)), (.int (0 : Int32)), (.double d), (.int i2), (.ref b365), (.ref b369), (.ref b665), (.ref b729)] 0 (by decide) (Nat.le_of_eq rfl) (by decide) (by decide) (lenOf own_pd3 rfl) rfl rfl 574 rfl (hb hby at_571) fun v849 T849 Lc849 X849 hQ849 => ?_
          obtain ⟨rfl, Nq849, e849⟩ := hQ849
          have N850 := Fr.app N848 Nq849
          show own_Go _ _ _ _ _ (State.setTop _ (mkF _ 574 _ [(.int (1 : Int32))]))
          refine own_ifNo X849 hx 577 rfl (hb hby at_574) (by decide) ?_
          refine own_iconst X849 hx 578 rfl (hb hby at_577) (4 : Int32) rfl ?_
          refine own_iload X849 hx 580 rfl (hb hby at_578) rfl ?_
          refine own_iload X849 hx 582 rfl (hb hby at_580) rfl ?_
          refine own_iload X849 hx 584 rfl (hb hby at_582) rfl ?_
          refine own_iload X849 hx 586 rfl (hb hby at_584) rfl ?_
          refine own_dload X849 hx 588 rfl (hb hby at_586) rfl ?_
          refine own_iloadN X849 hx 589 rfl (hb hby at_588) rfl ?_
          refine own_aload X849 hx 591 rfl (hb hby at_589) rfl rfl ?_
          refine own_aload X849 hx 593 rfl (hb hby at_591) rfl rfl ?_
          refine own_aload X849 hx 595 rfl (hb hby at_593) rfl rfl ?_
          refine own_aload X849 hx 597 rfl (hb hby at_595) rfl rfl ?_
          refine own_callS X849 hx hZ (y := (⟨"com/example/outpost/outpost/model/DistancesKeepNearerPinLaw", "same", "(IIIIZDI[D[I[D[I)Z"⟩ : MethodName)) hown (own_hw hw 13 rfl) (own_hw hw 14 rfl) (by decide) (rm_same_A1 l Z a0 hw [] (4 : Int32) (1 : Int32) (1 : Int32) (1 : Int32) d i2 b365 b369 b665 b729 k365 k369 k665 k729 [(.double (4652007308841189376 : UInt64)), (.double e0), (.double (4652024901027233792 : UInt64)), (.double (4652033697120256000 : UInt64)), (.double (4652042493213278208 : UInt64)), (.double (4652051289306300416 : UInt64))] [(.int (10 : Int32)), (.int (11 : Int32)), (.int (12 : Int32)), (.int (13 : Int32)), (.int (14 : Int32)), (.int (15 : Int32))] [(.double (4652007308841189376 : UInt64)), (.double e0), (.double (4652024901027233792 : UInt64)), (.double (4652033697120256000 : UInt64)), (.double (4652042493213278208 : UInt64)), (.double (4652051289306300416 : UInt64))] [(.int (10 : Int32)), (.int (11 : Int32)), (.int (12 : Int32)), (.int (13 : Int32)), (.int (14 : Int32)), (.int (15 : Int32))] (4652042493213278208 : UInt64) (14 : Int32) T832.heap n0 z842 f837 f836 fu832 fw832 (by decide) rfl rfl (by decide) rfl rfl (own_self own_cst.2.2.2.2.1)) (own_hw hw 16 rfl) (own_hw hw 15 rfl) (by decide) e849 (by rw [hml]; rfl) [(.int (4 : Int32)), (.int (1 : Int32)), (.int (1 : Int32)), (.int (1 : Int32)), (.int (0 : Int32)), (.double d), (.int i2), (.ref b365), (.ref b369), (.ref b665), (.ref b729)] 0 (by decide) (Nat.le_of_eq rfl) (by decide) (by decide) (lenOf own_pd3 rfl) rfl rfl 600 rfl (hb hby at_597) fun v851 T851 Lc851 X851 hQ851 => ?_
          obtain ⟨rfl, Nq851, e851⟩ := hQ851
          have N852 := Fr.app N850 Nq851
          show own_Go _ _ _ _ _ (State.setTop _ (mkF _ 600 _ [(.int (1 : Int32))]))
          refine own_ifNo X851 hx 603 rfl (hb hby at_600) (by decide) ?_
          refine own_iconst X851 hx 604 rfl (hb hby at_603) (5 : Int32) rfl ?_
          refine own_iload X851 hx 606 rfl (hb hby at_604) rfl ?_
          refine own_iload X851 hx 608 rfl (hb hby at_606) rfl ?_
          refine own_iload X851 hx 610 rfl (hb hby at_608) rfl ?_
          refine own_iload X851 hx 612 rfl (hb hby at_610) rfl ?_
          refine own_dload X851 hx 614 rfl (hb hby at_612) rfl ?_
          refine own_iloadN X851 hx 615 rfl (hb hby at_614) rfl ?_
          refine own_aload X851 hx 617 rfl (hb hby at_615) rfl rfl ?_
          refine own_aload X851 hx 619 rfl (hb hby at_617) rfl rfl ?_
          refine own_aload X851 hx 621 rfl (hb hby at_619) rfl rfl ?_
          refine own_aload X851 hx 623 rfl (hb hby at_621) rfl rfl ?_
          refine own_callS X851 hx hZ (y := (⟨"com/example/outpost/outpost/model/DistancesKeepNearerPinLaw", "same", "(IIIIZDI[D[I[D[I)Z"⟩ : MethodName)) hown (own_hw hw 13 rfl) (own_hw hw 14 rfl) (by decide) (rm_same_A1 l Z a0 hw [] (5 : Int32) (1 : Int32) (1 : Int32) (1 : Int32) d i2 b365 b369 b665 b729 k365 k369 k665 k729 [(.double (4652007308841189376 : UInt64)), (.double e0), (.double (4652024901027233792 : UInt64)), (.double (4652033697120256000 : UInt64)), (.double (4652042493213278208 : UInt64)), (.double (4652051289306300416 : UInt64))] [(.int (10 : Int32)), (.int (11 : Int32)), (.int (12 : Int32)), (.int (13 : Int32)), (.int (14 : Int32)), (.int (15 : Int32))] [(.double (4652007308841189376 : UInt64)), (.double e0), (.double (4652024901027233792 : UInt64)), (.double (4652033697120256000 : UInt64)), (.double (4652042493213278208 : UInt64)), (.double (4652051289306300416 : UInt64))] [(.int (10 : Int32)), (.int (11 : Int32)), (.int (12 : Int32)), (.int (13 : Int32)), (.int (14 : Int32)), (.int (15 : Int32))] (4652051289306300416 : UInt64) (15 : Int32) T832.heap n0 z842 f837 f836 fu832 fw832 (by decide) rfl rfl (by decide) rfl rfl (own_self own_cst.2.2.2.2.2)) (own_hw hw 16 rfl) (own_hw hw 15 rfl) (by decide) e851 (by rw [hml]; rfl) [(.int (5 : Int32)), (.int (1 : Int32)), (.int (1 : Int32)), (.int (1 : Int32)), (.int (0 : Int32)), (.double d), (.int i2), (.ref b365), (.ref b369), (.ref b665), (.ref b729)] 0 (by decide) (Nat.le_of_eq rfl) (by decide) (by decide) (lenOf own_pd3 rfl) rfl rfl 626 rfl (hb hby at_623) fun v853 T853 Lc853 X853 hQ853 => ?_
          obtain ⟨rfl, Nq853, e853⟩ := hQ853
          have N854 := Fr.app N852 Nq853
          show own_Go _ _ _ _ _ (State.setTop _ (mkF _ 626 _ [(.int (1 : Int32))]))
          refine own_ifNo X853 hx 629 rfl (hb hby at_626) (by decide) ?_
          refine own_iconst X853 hx 630 rfl (hb hby at_629) (1 : Int32) rfl ?_
          refine own_goto X853 hx 634 (hb hby at_630) (by decide) rfl ?_
          refine own_ret X853 (some (.int (1 : Int32))) (fun h => by rw [Bd.returns] at h; cases h) Bd.notSynchronized (by decide) (by decide) ?_ (fun fs hr => retN X853 hx (t := .boolean) Bd.returns (by simp) (hb hby at_634) hr)
          show Q_rm0 Z i0 i1 i2 h0 n0 _ T853.heap _
          rw [e853]
          exact ⟨rfl, N854⟩
      by_cases hc855 : (0 : Int32) < (own_k i0)
      ·
        refine own_icmpYes X453 hx 202 (hb hby at_195) (tlt hc855).1 (by decide) rfl ?_
        refine own_iload X453 hx 204 rfl (hb hby at_202) rfl ?_
        refine own_i2d X453 hx 205 rfl (hb hby at_204) _ rfl ?_
        exact J205 _ (if_pos hc855).symm
      ·
        refine own_icmpNo X453 hx 198 rfl (hb hby at_195) (flt hc855).1 ?_
        refine own_dloadN X453 hx 199 rfl (hb hby at_198) rfl ?_
        refine own_goto X453 hx 205 (hb hby at_199) (by decide) rfl ?_
        exact J205 _ (if_neg hc855).symm
    ·
      show own_Go _ _ _ _ _ (State.setTop _ (mkF _ 181 #[.val (.int i0), .val (.int i1), .val (.int i2), .val (.double (9218868437227405312 : UInt64)), .second, .val (.int (2 : Int32)), .val (.int (0 : Int32)), .val (.int (own_k i0)), .val (.int f8), .val (.int (own_a0 i1)), .val (.int (own_a1 i1)), .val (.int (own_a2 i1)), .val (.double d), .second, .val (.ref b365), .val (.ref b369), .unset, .unset, .unset, .unset, .unset, .unset] []))
      refine own_iload X453 hx 183 rfl (hb hby at_181) rfl ?_
      refine own_iload X453 hx 185 rfl (hb hby at_183) rfl ?_
      refine own_imul X453 hx 186 rfl (hb hby at_185) (0 : Int32) rfl ?_
      refine own_istore X453 hx 188 rfl (hb hby at_186) #[.val (.int i0), .val (.int i1), .val (.int i2), .val (.double (9218868437227405312 : UInt64)), .second, .val (.int (2 : Int32)), .val (.int (0 : Int32)), .val (.int (own_k i0)), .val (.int f8), .val (.int (own_a0 i1)), .val (.int (own_a1 i1)), .val (.int (own_a2 i1)), .val (.double d), .second, .val (.ref b365), .val (.ref b369), .val (.int (0 : Int32)), .unset, .unset, .unset, .unset, .unset] rfl ?_
      refine own_aload X453 hx 190 rfl (hb hby at_188) rfl rfl ?_
      refine own_iload X453 hx 192 rfl (hb hby at_190) rfl ?_
      refine own_iconst X453 hx 193 rfl (hb hby at_192) (0 : Int32) rfl ?_
      refine own_iload X453 hx 195 rfl (hb hby at_193) rfl ?_
      have J205 : ∀ (e0 : UInt64), (e0 = (own_v (0 : Int32) (own_k i0) (own_a0 i1))) → own_Go p e below (fun o u L => FrameEnd s o u L room_1.cells room_1.slots) (Q_rm0 Z i0 i1 i2 h0 n0) (T453.setTop (mkF m 205 #[.val (.int i0), .val (.int i1), .val (.int i2), .val (.double (9218868437227405312 : UInt64)), .second, .val (.int (2 : Int32)), .val (.int (0 : Int32)), .val (.int (own_k i0)), .val (.int f8), .val (.int (own_a0 i1)), .val (.int (own_a1 i1)), .val (.int (own_a2 i1)), .val (.double d), .second, .val (.ref b365), .val (.ref b369), .val (.int (0 : Int32)), .unset, .unset, .unset, .unset, .unset] [(.double e0), (.int (0 : Int32)), (.ref b365)])) := by
        intro e0 he0
        have nn0 : FP.Core.val64 e0 ≠ .nan := by rw [he0]; exact own_v_nan _ _ _
        show own_Go _ _ _ _ _ (State.setTop _ (mkF _ 205 _ [(.double e0), (.int (0 : Int32)), (.ref b365)]))
        refine own_stD X453 hx hZ e453 f457 ⟨by decide, by decide⟩ 0 rfl (Nat.le_of_ble_eq_true rfl) [(.double e0), (.double (4652016104934211584 : UInt64)), (.double (4652024901027233792 : UInt64)), (.double (4652033697120256000 : UInt64)), (.double (4652042493213278208 : UInt64)), (.double (4652051289306300416 : UInt64))] rfl 206 rfl (hb hby at_205) fun T856 h856 X856 e856 W856 f857 => ?_
        have f858 := f455.wr W856
        have f859 := f456.wr W856
        have f860 := f454.other W856 (Ne.symm ne370)
        have z861 := Nat.le_trans z458 (Keep.of_wr W856).1
        have N862 := Fr.snoc X856 N459 ge366
        refine own_iload X856 hx 208 rfl (hb hby at_206) rfl ?_
        refine own_iconst X856 hx 209 rfl (hb hby at_208) (2 : Int32) rfl ?_
        refine own_icmpNo X856 hx 212 rfl (hb hby at_209) (by decide) ?_
        refine own_aload X856 hx 214 rfl (hb hby at_212) rfl rfl ?_
        refine own_iload X856 hx 216 rfl (hb hby at_214) rfl ?_
        refine own_iconst X856 hx 217 rfl (hb hby at_216) (1 : Int32) rfl ?_
        refine own_iadd X856 hx 218 rfl (hb hby at_217) (1 : Int32) rfl ?_
        refine own_iconst X856 hx 219 rfl (hb hby at_218) (1 : Int32) rfl ?_
        refine own_iload X856 hx 221 rfl (hb hby at_219) rfl ?_
        have J231 : ∀ (e1 : UInt64), (e1 = (own_v (1 : Int32) (own_k i0) (own_a1 i1))) → own_Go p e below (fun o u L => FrameEnd s o u L room_1.cells room_1.slots) (Q_rm0 Z i0 i1 i2 h0 n0) (T856.setTop (mkF m 231 #[.val (.int i0), .val (.int i1), .val (.int i2), .val (.double (9218868437227405312 : UInt64)), .second, .val (.int (2 : Int32)), .val (.int (0 : Int32)), .val (.int (own_k i0)), .val (.int f8), .val (.int (own_a0 i1)), .val (.int (own_a1 i1)), .val (.int (own_a2 i1)), .val (.double d), .second, .val (.ref b365), .val (.ref b369), .val (.int (0 : Int32)), .unset, .unset, .unset, .unset, .unset] [(.double e1), (.int (1 : Int32)), (.ref b365)])) := by
          intro e1 he1
          have nn1 : FP.Core.val64 e1 ≠ .nan := by rw [he1]; exact own_v_nan _ _ _
          have la1 : own_z e0 ≤ own_z e1 := by rw [he0, he1]; exact own_v_le (by decide) (own_a_rng i1).2.1
          show own_Go _ _ _ _ _ (State.setTop _ (mkF _ 231 _ [(.double e1), (.int (1 : Int32)), (.ref b365)]))
          refine own_stD X856 hx hZ e856 f857 ⟨by decide, by decide⟩ 1 rfl (Nat.le_of_ble_eq_true rfl) [(.double e0), (.double e1), (.double (4652024901027233792 : UInt64)), (.double (4652033697120256000 : UInt64)), (.double (4652042493213278208 : UInt64)), (.double (4652051289306300416 : UInt64))] rfl 232 rfl (hb hby at_231) fun T863 h863 X863 e863 W863 f864 => ?_
          have f865 := f858.wr W863
          have f866 := f859.wr W863
          have f867 := f860.other W863 (Ne.symm ne370)
          have z868 := Nat.le_trans z861 (Keep.of_wr W863).1
          have N869 := Fr.snoc X863 N862 ge366
          refine own_iload X863 hx 234 rfl (hb hby at_232) rfl ?_
          refine own_iconst X863 hx 235 rfl (hb hby at_234) (3 : Int32) rfl ?_
          refine own_icmpYes X863 hx 258 (hb hby at_235) (by decide) (by decide) rfl ?_
          refine own_bipush X863 hx 260 rfl (hb hby at_258) (6 : Int32) rfl ?_
          refine own_newA X863 hx hZ (own_hw hw 1 rfl) e863 262 rfl (hb hby at_260) (by decide) 6 (by decide) (by decide) (by decide) (by decide) "[D" (by decide) fun T870 h870 k870 b870 g870 X870 e870 E870 A870 C870 => ?_
          have ne871 : b365 ≠ b870 := Nat.ne_of_lt (Nat.lt_of_lt_of_le f865.lt (Nat.le_of_eq g870.symm))
          have ne872 : b369 ≠ b870 := Nat.ne_of_lt (Nat.lt_of_lt_of_le f866.lt (Nat.le_of_eq g870.symm))
          have ge873 : n0 ≤ b870 := Nat.le_trans z868 (Nat.le_of_eq g870.symm)
          have f874 := f865.ext E870
          have f875 := f866.ext E870
          have f876 := f867.ext E870
          have f877 := f864.ext E870
          have z878 := Nat.le_trans z868 E870.1
          have f879 : Arv Z h870 b870 k870 .double (6 : Int32) [(.double (0 : UInt64)), (.double (0 : UInt64)), (.double (0 : UInt64)), (.double (0 : UInt64)), (.double (0 : UInt64)), (.double (0 : UInt64))] (.double (0 : UInt64)) := (Arv.new A870 (by decide)).pad (pad_rep [] (.double (0 : UInt64)) 6)
          refine own_astore X870 hx 264 rfl (hb hby at_262) rfl #[.val (.int i0), .val (.int i1), .val (.int i2), .val (.double (9218868437227405312 : UInt64)), .second, .val (.int (2 : Int32)), .val (.int (0 : Int32)), .val (.int (own_k i0)), .val (.int f8), .val (.int (own_a0 i1)), .val (.int (own_a1 i1)), .val (.int (own_a2 i1)), .val (.double d), .second, .val (.ref b365), .val (.ref b369), .val (.int (0 : Int32)), .val (.ref b870), .unset, .unset, .unset, .unset] rfl ?_
          refine own_aload X870 hx 266 rfl (hb hby at_264) rfl rfl ?_
          refine own_iconst X870 hx 267 rfl (hb hby at_266) (0 : Int32) rfl ?_
          refine own_aload X870 hx 269 rfl (hb hby at_267) rfl rfl ?_
          refine own_iconst X870 hx 270 rfl (hb hby at_269) (0 : Int32) rfl ?_
          refine own_ldD X870 hx hZ e870 f877 ⟨by decide, by decide⟩ e0 rfl 271 rfl (hb hby at_270) ?_
          refine own_stD X870 hx hZ e870 f879 ⟨by decide, by decide⟩ 0 rfl (Nat.le_of_ble_eq_true rfl) [(.double e0), (.double (0 : UInt64)), (.double (0 : UInt64)), (.double (0 : UInt64)), (.double (0 : UInt64)), (.double (0 : UInt64))] rfl 272 rfl (hb hby at_271) fun T880 h880 X880 e880 W880 f881 => ?_
          have f882 := f874.wr W880
          have f883 := f875.wr W880
          have f884 := f876.other W880 ne872
          have f885 := f877.other W880 ne871
          have f886 := C870.wr W880
          have z887 := Nat.le_trans z878 (Keep.of_wr W880).1
          have N888 := Fr.snoc X880 N869 ge873
          refine own_aload X880 hx 274 rfl (hb hby at_272) rfl rfl ?_
          refine own_iconst X880 hx 275 rfl (hb hby at_274) (1 : Int32) rfl ?_
          refine own_aload X880 hx 277 rfl (hb hby at_275) rfl rfl ?_
          refine own_iconst X880 hx 278 rfl (hb hby at_277) (1 : Int32) rfl ?_
          refine own_ldD X880 hx hZ e880 f885 ⟨by decide, by decide⟩ e1 rfl 279 rfl (hb hby at_278) ?_
          refine own_stD X880 hx hZ e880 f881 ⟨by decide, by decide⟩ 1 rfl (Nat.le_of_ble_eq_true rfl) [(.double e0), (.double e1), (.double (0 : UInt64)), (.double (0 : UInt64)), (.double (0 : UInt64)), (.double (0 : UInt64))] rfl 280 rfl (hb hby at_279) fun T889 h889 X889 e889 W889 f890 => ?_
          have f891 := f882.wr W889
          have f892 := f883.wr W889
          have f893 := f884.other W889 ne872
          have f894 := f885.other W889 ne871
          have f895 := f886.wr W889
          have z896 := Nat.le_trans z887 (Keep.of_wr W889).1
          have N897 := Fr.snoc X889 N888 ge873
          refine own_aload X889 hx 282 rfl (hb hby at_280) rfl rfl ?_
          refine own_iconst X889 hx 283 rfl (hb hby at_282) (2 : Int32) rfl ?_
          refine own_aload X889 hx 285 rfl (hb hby at_283) rfl rfl ?_
          refine own_iconst X889 hx 286 rfl (hb hby at_285) (2 : Int32) rfl ?_
          refine own_ldD X889 hx hZ e889 f894 ⟨by decide, by decide⟩ (4652024901027233792 : UInt64) rfl 287 rfl (hb hby at_286) ?_
          refine own_stD X889 hx hZ e889 f890 ⟨by decide, by decide⟩ 2 rfl (Nat.le_of_ble_eq_true rfl) [(.double e0), (.double e1), (.double (4652024901027233792 : UInt64)), (.double (0 : UInt64)), (.double (0 : UInt64)), (.double (0 : UInt64))] rfl 288 rfl (hb hby at_287) fun T898 h898 X898 e898 W898 f899 => ?_
          have f900 := f891.wr W898
          have f901 := f892.wr W898
          have f902 := f893.other W898 ne872
          have f903 := f894.other W898 ne871
          have f904 := f895.wr W898
          have z905 := Nat.le_trans z896 (Keep.of_wr W898).1
          have N906 := Fr.snoc X898 N897 ge873
          refine own_aload X898 hx 290 rfl (hb hby at_288) rfl rfl ?_
          refine own_iconst X898 hx 291 rfl (hb hby at_290) (3 : Int32) rfl ?_
          refine own_aload X898 hx 293 rfl (hb hby at_291) rfl rfl ?_
          refine own_iconst X898 hx 294 rfl (hb hby at_293) (3 : Int32) rfl ?_
          refine own_ldD X898 hx hZ e898 f903 ⟨by decide, by decide⟩ (4652033697120256000 : UInt64) rfl 295 rfl (hb hby at_294) ?_
          refine own_stD X898 hx hZ e898 f899 ⟨by decide, by decide⟩ 3 rfl (Nat.le_of_ble_eq_true rfl) [(.double e0), (.double e1), (.double (4652024901027233792 : UInt64)), (.double (4652033697120256000 : UInt64)), (.double (0 : UInt64)), (.double (0 : UInt64))] rfl 296 rfl (hb hby at_295) fun T907 h907 X907 e907 W907 f908 => ?_
          have f909 := f900.wr W907
          have f910 := f901.wr W907
          have f911 := f902.other W907 ne872
          have f912 := f903.other W907 ne871
          have f913 := f904.wr W907
          have z914 := Nat.le_trans z905 (Keep.of_wr W907).1
          have N915 := Fr.snoc X907 N906 ge873
          refine own_aload X907 hx 298 rfl (hb hby at_296) rfl rfl ?_
          refine own_iconst X907 hx 299 rfl (hb hby at_298) (4 : Int32) rfl ?_
          refine own_aload X907 hx 301 rfl (hb hby at_299) rfl rfl ?_
          refine own_iconst X907 hx 302 rfl (hb hby at_301) (4 : Int32) rfl ?_
          refine own_ldD X907 hx hZ e907 f912 ⟨by decide, by decide⟩ (4652042493213278208 : UInt64) rfl 303 rfl (hb hby at_302) ?_
          refine own_stD X907 hx hZ e907 f908 ⟨by decide, by decide⟩ 4 rfl (Nat.le_of_ble_eq_true rfl) [(.double e0), (.double e1), (.double (4652024901027233792 : UInt64)), (.double (4652033697120256000 : UInt64)), (.double (4652042493213278208 : UInt64)), (.double (0 : UInt64))] rfl 304 rfl (hb hby at_303) fun T916 h916 X916 e916 W916 f917 => ?_
          have f918 := f909.wr W916
          have f919 := f910.wr W916
          have f920 := f911.other W916 ne872
          have f921 := f912.other W916 ne871
          have f922 := f913.wr W916
          have z923 := Nat.le_trans z914 (Keep.of_wr W916).1
          have N924 := Fr.snoc X916 N915 ge873
          refine own_aload X916 hx 306 rfl (hb hby at_304) rfl rfl ?_
          refine own_iconst X916 hx 307 rfl (hb hby at_306) (5 : Int32) rfl ?_
          refine own_aload X916 hx 309 rfl (hb hby at_307) rfl rfl ?_
          refine own_iconst X916 hx 310 rfl (hb hby at_309) (5 : Int32) rfl ?_
          refine own_ldD X916 hx hZ e916 f921 ⟨by decide, by decide⟩ (4652051289306300416 : UInt64) rfl 311 rfl (hb hby at_310) ?_
          refine own_stD X916 hx hZ e916 f917 ⟨by decide, by decide⟩ 5 rfl (Nat.le_of_ble_eq_true rfl) [(.double e0), (.double e1), (.double (4652024901027233792 : UInt64)), (.double (4652033697120256000 : UInt64)), (.double (4652042493213278208 : UInt64)), (.double (4652051289306300416 : UInt64))] rfl 312 rfl (hb hby at_311) fun T925 h925 X925 e925 W925 f926 => ?_
          have f927 := f918.wr W925
          have f928 := f919.wr W925
          have f929 := f920.other W925 ne872
          have f930 := f921.other W925 ne871
          have f931 := f922.wr W925
          have z932 := Nat.le_trans z923 (Keep.of_wr W925).1
          have N933 := Fr.snoc X925 N924 ge873
          refine own_bipush X925 hx 314 rfl (hb hby at_312) (6 : Int32) rfl ?_
          refine own_newA X925 hx hZ (own_hw hw 2 rfl) e925 316 rfl (hb hby at_314) (by decide) 6 (by decide) (by decide) (by decide) (by decide) "[I" (by decide) fun T934 h934 k934 b934 g934 X934 e934 E934 A934 C934 => ?_
          have ne935 : b365 ≠ b934 := Nat.ne_of_lt (Nat.lt_of_lt_of_le f927.lt (Nat.le_of_eq g934.symm))
          have ne936 : b369 ≠ b934 := Nat.ne_of_lt (Nat.lt_of_lt_of_le f928.lt (Nat.le_of_eq g934.symm))
          have ne937 : b870 ≠ b934 := Nat.ne_of_lt (Nat.lt_of_lt_of_le f931.lt (Nat.le_of_eq g934.symm))
          have ge938 : n0 ≤ b934 := Nat.le_trans z932 (Nat.le_of_eq g934.symm)
          have f939 := f927.ext E934
          have f940 := f928.ext E934
          have f941 := f929.ext E934
          have f942 := f930.ext E934
          have f943 := f931.ext E934
          have f944 := f926.ext E934
          have z945 := Nat.le_trans z932 E934.1
          have f946 : Arv Z h934 b934 k934 .int (6 : Int32) [(.int (0 : Int32)), (.int (0 : Int32)), (.int (0 : Int32)), (.int (0 : Int32)), (.int (0 : Int32)), (.int (0 : Int32))] (.int (0 : Int32)) := (Arv.new A934 (by decide)).pad (pad_rep [] (.int (0 : Int32)) 6)
          refine own_astore X934 hx 318 rfl (hb hby at_316) rfl #[.val (.int i0), .val (.int i1), .val (.int i2), .val (.double (9218868437227405312 : UInt64)), .second, .val (.int (2 : Int32)), .val (.int (0 : Int32)), .val (.int (own_k i0)), .val (.int f8), .val (.int (own_a0 i1)), .val (.int (own_a1 i1)), .val (.int (own_a2 i1)), .val (.double d), .second, .val (.ref b365), .val (.ref b369), .val (.int (0 : Int32)), .val (.ref b870), .val (.ref b934), .unset, .unset, .unset] rfl ?_
          refine own_aload X934 hx 320 rfl (hb hby at_318) rfl rfl ?_
          refine own_iconst X934 hx 321 rfl (hb hby at_320) (0 : Int32) rfl ?_
          refine own_aload X934 hx 323 rfl (hb hby at_321) rfl rfl ?_
          refine own_iconst X934 hx 324 rfl (hb hby at_323) (0 : Int32) rfl ?_
          refine own_ldI X934 hx hZ e934 f941 ⟨by decide, by decide⟩ (10 : Int32) rfl 325 rfl (hb hby at_324) ?_
          refine own_stI X934 hx hZ e934 f946 ⟨by decide, by decide⟩ 0 rfl (Nat.le_of_ble_eq_true rfl) [(.int (10 : Int32)), (.int (0 : Int32)), (.int (0 : Int32)), (.int (0 : Int32)), (.int (0 : Int32)), (.int (0 : Int32))] rfl 326 rfl (hb hby at_325) fun T947 h947 X947 e947 W947 f948 => ?_
          have f949 := f939.wr W947
          have f950 := f940.wr W947
          have f951 := f941.other W947 ne936
          have f952 := f942.other W947 ne935
          have f953 := f943.wr W947
          have f954 := f944.other W947 ne937
          have f955 := C934.wr W947
          have z956 := Nat.le_trans z945 (Keep.of_wr W947).1
          have N957 := Fr.snoc X947 N933 ge938
          refine own_aload X947 hx 328 rfl (hb hby at_326) rfl rfl ?_
          refine own_iconst X947 hx 329 rfl (hb hby at_328) (1 : Int32) rfl ?_
          refine own_aload X947 hx 331 rfl (hb hby at_329) rfl rfl ?_
          refine own_iconst X947 hx 332 rfl (hb hby at_331) (1 : Int32) rfl ?_
          refine own_ldI X947 hx hZ e947 f951 ⟨by decide, by decide⟩ (11 : Int32) rfl 333 rfl (hb hby at_332) ?_
          refine own_stI X947 hx hZ e947 f948 ⟨by decide, by decide⟩ 1 rfl (Nat.le_of_ble_eq_true rfl) [(.int (10 : Int32)), (.int (11 : Int32)), (.int (0 : Int32)), (.int (0 : Int32)), (.int (0 : Int32)), (.int (0 : Int32))] rfl 334 rfl (hb hby at_333) fun T958 h958 X958 e958 W958 f959 => ?_
          have f960 := f949.wr W958
          have f961 := f950.wr W958
          have f962 := f951.other W958 ne936
          have f963 := f952.other W958 ne935
          have f964 := f953.wr W958
          have f965 := f954.other W958 ne937
          have f966 := f955.wr W958
          have z967 := Nat.le_trans z956 (Keep.of_wr W958).1
          have N968 := Fr.snoc X958 N957 ge938
          refine own_aload X958 hx 336 rfl (hb hby at_334) rfl rfl ?_
          refine own_iconst X958 hx 337 rfl (hb hby at_336) (2 : Int32) rfl ?_
          refine own_aload X958 hx 339 rfl (hb hby at_337) rfl rfl ?_
          refine own_iconst X958 hx 340 rfl (hb hby at_339) (2 : Int32) rfl ?_
          refine own_ldI X958 hx hZ e958 f962 ⟨by decide, by decide⟩ (12 : Int32) rfl 341 rfl (hb hby at_340) ?_
          refine own_stI X958 hx hZ e958 f959 ⟨by decide, by decide⟩ 2 rfl (Nat.le_of_ble_eq_true rfl) [(.int (10 : Int32)), (.int (11 : Int32)), (.int (12 : Int32)), (.int (0 : Int32)), (.int (0 : Int32)), (.int (0 : Int32))] rfl 342 rfl (hb hby at_341) fun T969 h969 X969 e969 W969 f970 => ?_
          have f971 := f960.wr W969
          have f972 := f961.wr W969
          have f973 := f962.other W969 ne936
          have f974 := f963.other W969 ne935
          have f975 := f964.wr W969
          have f976 := f965.other W969 ne937
          have f977 := f966.wr W969
          have z978 := Nat.le_trans z967 (Keep.of_wr W969).1
          have N979 := Fr.snoc X969 N968 ge938
          refine own_aload X969 hx 344 rfl (hb hby at_342) rfl rfl ?_
          refine own_iconst X969 hx 345 rfl (hb hby at_344) (3 : Int32) rfl ?_
          refine own_aload X969 hx 347 rfl (hb hby at_345) rfl rfl ?_
          refine own_iconst X969 hx 348 rfl (hb hby at_347) (3 : Int32) rfl ?_
          refine own_ldI X969 hx hZ e969 f973 ⟨by decide, by decide⟩ (13 : Int32) rfl 349 rfl (hb hby at_348) ?_
          refine own_stI X969 hx hZ e969 f970 ⟨by decide, by decide⟩ 3 rfl (Nat.le_of_ble_eq_true rfl) [(.int (10 : Int32)), (.int (11 : Int32)), (.int (12 : Int32)), (.int (13 : Int32)), (.int (0 : Int32)), (.int (0 : Int32))] rfl 350 rfl (hb hby at_349) fun T980 h980 X980 e980 W980 f981 => ?_
          have f982 := f971.wr W980
          have f983 := f972.wr W980
          have f984 := f973.other W980 ne936
          have f985 := f974.other W980 ne935
          have f986 := f975.wr W980
          have f987 := f976.other W980 ne937
          have f988 := f977.wr W980
          have z989 := Nat.le_trans z978 (Keep.of_wr W980).1
          have N990 := Fr.snoc X980 N979 ge938
          refine own_aload X980 hx 352 rfl (hb hby at_350) rfl rfl ?_
          refine own_iconst X980 hx 353 rfl (hb hby at_352) (4 : Int32) rfl ?_
          refine own_aload X980 hx 355 rfl (hb hby at_353) rfl rfl ?_
          refine own_iconst X980 hx 356 rfl (hb hby at_355) (4 : Int32) rfl ?_
          refine own_ldI X980 hx hZ e980 f984 ⟨by decide, by decide⟩ (14 : Int32) rfl 357 rfl (hb hby at_356) ?_
          refine own_stI X980 hx hZ e980 f981 ⟨by decide, by decide⟩ 4 rfl (Nat.le_of_ble_eq_true rfl) [(.int (10 : Int32)), (.int (11 : Int32)), (.int (12 : Int32)), (.int (13 : Int32)), (.int (14 : Int32)), (.int (0 : Int32))] rfl 358 rfl (hb hby at_357) fun T991 h991 X991 e991 W991 f992 => ?_
          have f993 := f982.wr W991
          have f994 := f983.wr W991
          have f995 := f984.other W991 ne936
          have f996 := f985.other W991 ne935
          have f997 := f986.wr W991
          have f998 := f987.other W991 ne937
          have f999 := f988.wr W991
          have z1000 := Nat.le_trans z989 (Keep.of_wr W991).1
          have N1001 := Fr.snoc X991 N990 ge938
          refine own_aload X991 hx 360 rfl (hb hby at_358) rfl rfl ?_
          refine own_iconst X991 hx 361 rfl (hb hby at_360) (5 : Int32) rfl ?_
          refine own_aload X991 hx 363 rfl (hb hby at_361) rfl rfl ?_
          refine own_iconst X991 hx 364 rfl (hb hby at_363) (5 : Int32) rfl ?_
          refine own_ldI X991 hx hZ e991 f995 ⟨by decide, by decide⟩ (15 : Int32) rfl 365 rfl (hb hby at_364) ?_
          refine own_stI X991 hx hZ e991 f992 ⟨by decide, by decide⟩ 5 rfl (Nat.le_of_ble_eq_true rfl) [(.int (10 : Int32)), (.int (11 : Int32)), (.int (12 : Int32)), (.int (13 : Int32)), (.int (14 : Int32)), (.int (15 : Int32))] rfl 366 rfl (hb hby at_365) fun T1002 h1002 X1002 e1002 W1002 f1003 => ?_
          have f1004 := f993.wr W1002
          have f1005 := f994.wr W1002
          have f1006 := f995.other W1002 ne936
          have f1007 := f996.other W1002 ne935
          have f1008 := f997.wr W1002
          have f1009 := f998.other W1002 ne937
          have f1010 := f999.wr W1002
          have z1011 := Nat.le_trans z1000 (Keep.of_wr W1002).1
          have N1012 := Fr.snoc X1002 N1001 ge938
          refine own_dload X1002 hx 368 rfl (hb hby at_366) rfl ?_
          refine own_aload X1002 hx 370 rfl (hb hby at_368) rfl rfl ?_
          refine own_iload X1002 hx 372 rfl (hb hby at_370) rfl ?_
          refine own_iload X1002 hx 374 rfl (hb hby at_372) rfl ?_
          refine own_iadd X1002 hx 375 rfl (hb hby at_374) (2 : Int32) rfl ?_
          refine own_iconst X1002 hx 376 rfl (hb hby at_375) (1 : Int32) rfl ?_
          refine own_isub X1002 hx 377 rfl (hb hby at_376) (1 : Int32) rfl ?_
          refine own_ldD X1002 hx hZ e1002 f1007 ⟨by decide, by decide⟩ e1 rfl 378 rfl (hb hby at_377) ?_
          by_cases hc1013 : own_z d < own_z e0
          ·
            refine own_dcmp X1002 hx 379 rfl (hb hby at_378) _ rfl ?_
            refine own_ifNo X1002 hx 382 rfl (hb hby at_379) ((if0 _ _).trans (tlt (own_cg hd nn1 (Int.lt_of_lt_of_le hc1013 la1) .g)).2.1) ?_
            refine own_iconst X1002 hx 383 rfl (hb hby at_382) (1 : Int32) rfl ?_
            refine own_goto X1002 hx 387 (hb hby at_383) (by decide) rfl ?_
            refine own_istore X1002 hx 389 rfl (hb hby at_387) #[.val (.int i0), .val (.int i1), .val (.int i2), .val (.double (9218868437227405312 : UInt64)), .second, .val (.int (2 : Int32)), .val (.int (0 : Int32)), .val (.int (own_k i0)), .val (.int f8), .val (.int (own_a0 i1)), .val (.int (own_a1 i1)), .val (.int (own_a2 i1)), .val (.double d), .second, .val (.ref b365), .val (.ref b369), .val (.int (0 : Int32)), .val (.ref b870), .val (.ref b934), .val (.int (1 : Int32)), .unset, .unset] rfl ?_
            refine own_iconst X1002 hx 390 rfl (hb hby at_389) (0 : Int32) rfl ?_
            refine own_istore X1002 hx 392 rfl (hb hby at_390) #[.val (.int i0), .val (.int i1), .val (.int i2), .val (.double (9218868437227405312 : UInt64)), .second, .val (.int (2 : Int32)), .val (.int (0 : Int32)), .val (.int (own_k i0)), .val (.int f8), .val (.int (own_a0 i1)), .val (.int (own_a1 i1)), .val (.int (own_a2 i1)), .val (.double d), .second, .val (.ref b365), .val (.ref b369), .val (.int (0 : Int32)), .val (.ref b870), .val (.ref b934), .val (.int (1 : Int32)), .val (.int (0 : Int32)), .unset] rfl ?_
            refine own_aload X1002 hx 394 rfl (hb hby at_392) rfl rfl ?_
            refine own_iload X1002 hx 396 rfl (hb hby at_394) rfl ?_
            refine own_ldD X1002 hx hZ e1002 f1007 ⟨by decide, by decide⟩ e0 rfl 397 rfl (hb hby at_396) ?_
            refine own_dload X1002 hx 399 rfl (hb hby at_397) rfl ?_
            refine own_dcmp X1002 hx 400 rfl (hb hby at_399) _ rfl ?_
            refine own_ifYes X1002 hx 406 (hb hby at_400) ((if0 _ _).trans (tlt (own_cp nn0 hd hc1013 .g)).2.2.1) (by decide) rfl ?_
            refine own_iload X1002 hx 408 rfl (hb hby at_406) rfl ?_
            refine own_iconst X1002 hx 409 rfl (hb hby at_408) (2 : Int32) rfl ?_
            refine own_icmpNo X1002 hx 412 rfl (hb hby at_409) (by decide) ?_
            refine own_aload X1002 hx 414 rfl (hb hby at_412) rfl rfl ?_
            refine own_iload X1002 hx 416 rfl (hb hby at_414) rfl ?_
            refine own_iconst X1002 hx 417 rfl (hb hby at_416) (1 : Int32) rfl ?_
            refine own_iadd X1002 hx 418 rfl (hb hby at_417) (1 : Int32) rfl ?_
            refine own_ldD X1002 hx hZ e1002 f1007 ⟨by decide, by decide⟩ e1 rfl 419 rfl (hb hby at_418) ?_
            refine own_dload X1002 hx 421 rfl (hb hby at_419) rfl ?_
            refine own_dcmp X1002 hx 422 rfl (hb hby at_421) _ rfl ?_
            refine own_ifYes X1002 hx 428 (hb hby at_422) ((if0 _ _).trans (tlt (own_cp nn1 hd (Int.lt_of_lt_of_le hc1013 la1) .g)).2.2.1) (by decide) rfl ?_
            refine own_iload X1002 hx 430 rfl (hb hby at_428) rfl ?_
            refine own_iconst X1002 hx 431 rfl (hb hby at_430) (3 : Int32) rfl ?_
            refine own_icmpYes X1002 hx 450 (hb hby at_431) (by decide) (by decide) rfl ?_
            refine own_iloadN X1002 hx 451 rfl (hb hby at_450) rfl ?_
            refine own_dload X1002 hx 453 rfl (hb hby at_451) rfl ?_
            refine own_iload X1002 hx 455 rfl (hb hby at_453) rfl ?_
            refine own_iload X1002 hx 457 rfl (hb hby at_455) rfl ?_
            refine own_aload X1002 hx 459 rfl (hb hby at_457) rfl rfl ?_
            refine own_aload X1002 hx 461 rfl (hb hby at_459) rfl rfl ?_
            refine own_callS X1002 hx hZ (y := (⟨"com/example/outpost/outpost/model/Distances", "keepNearer", "(IDII[D[I)Z"⟩ : MethodName)) hown (own_hw hw 9 rfl) (own_hw hw 10 rfl) (by decide) (rm_keep_2_0_0 l Z a0 hw [] i2 d b870 b934 k870 k934 e0 e1 (4652024901027233792 : UInt64) (4652033697120256000 : UInt64) (4652042493213278208 : UInt64) (4652051289306300416 : UInt64) (10 : Int32) (11 : Int32) (12 : Int32) (13 : Int32) (14 : Int32) (15 : Int32) h1002 n0 z1011 f1009 f1003 ne937 ge873 ge938 (own_cg hd nn1 (Int.lt_of_lt_of_le hc1013 la1) .g) (own_cp nn0 hd hc1013 .l)) (own_hw hw 12 rfl) (own_hw hw 11 rfl) (by decide) e1002 (by rw [hml]; rfl) [(.int i2), (.double d), (.int (0 : Int32)), (.int (2 : Int32)), (.ref b870), (.ref b934)] 0 (by decide) (Nat.le_of_eq rfl) (by decide) (by decide) (lenOf own_pd2 rfl) rfl rfl 464 rfl (hb hby at_461) fun v1014 T1014 Lc1014 X1014 hQ1014 => ?_
            obtain ⟨rfl, Nq1014, Kq1014, fu1014, fw1014⟩ := hQ1014
            have N1015 := Fr.app N1012 Nq1014
            have f1016 := f1004.keep Kq1014
            have f1017 := f1005.keep Kq1014
            have f1018 := f1006.keep Kq1014 (ninS ne872 (ninS ne936 nin0))
            have f1019 := f1007.keep Kq1014 (ninS ne871 (ninS ne935 nin0))
            have f1020 := f1008.keep Kq1014
            have f1022 := f1010.keep Kq1014
            have z1024 := Nat.le_trans z1011 Kq1014.1
            show own_Go _ _ _ _ _ (State.setTop _ (mkF _ 464 _ [(.int (1 : Int32))]))
            refine own_istore X1014 hx 466 rfl (hb hby at_464) #[.val (.int i0), .val (.int i1), .val (.int i2), .val (.double (9218868437227405312 : UInt64)), .second, .val (.int (2 : Int32)), .val (.int (0 : Int32)), .val (.int (own_k i0)), .val (.int f8), .val (.int (own_a0 i1)), .val (.int (own_a1 i1)), .val (.int (own_a2 i1)), .val (.double d), .second, .val (.ref b365), .val (.ref b369), .val (.int (0 : Int32)), .val (.ref b870), .val (.ref b934), .val (.int (1 : Int32)), .val (.int (0 : Int32)), .val (.int (1 : Int32))] rfl ?_
            refine own_iload X1014 hx 468 rfl (hb hby at_466) rfl ?_
            refine own_iload X1014 hx 470 rfl (hb hby at_468) rfl ?_
            refine own_icmpNo X1014 hx 473 rfl (hb hby at_470) (by decide) ?_
            refine own_iconst X1014 hx 474 rfl (hb hby at_473) (0 : Int32) rfl ?_
            refine own_iload X1014 hx 476 rfl (hb hby at_474) rfl ?_
            refine own_iload X1014 hx 478 rfl (hb hby at_476) rfl ?_
            refine own_iload X1014 hx 480 rfl (hb hby at_478) rfl ?_
            refine own_iload X1014 hx 482 rfl (hb hby at_480) rfl ?_
            refine own_dload X1014 hx 484 rfl (hb hby at_482) rfl ?_
            refine own_iloadN X1014 hx 485 rfl (hb hby at_484) rfl ?_
            refine own_aload X1014 hx 487 rfl (hb hby at_485) rfl rfl ?_
            refine own_aload X1014 hx 489 rfl (hb hby at_487) rfl rfl ?_
            refine own_aload X1014 hx 491 rfl (hb hby at_489) rfl rfl ?_
            refine own_aload X1014 hx 493 rfl (hb hby at_491) rfl rfl ?_
            refine own_callS X1014 hx hZ (y := (⟨"com/example/outpost/outpost/model/DistancesKeepNearerPinLaw", "same", "(IIIIZDI[D[I[D[I)Z"⟩ : MethodName)) hown (own_hw hw 13 rfl) (own_hw hw 14 rfl) (by decide) (rm_same_C l Z a0 hw [] (0 : Int32) (0 : Int32) (2 : Int32) (0 : Int32) d i2 b365 b369 b870 b934 k365 k369 k870 k934 [(.double e0), (.double e1), (.double (4652024901027233792 : UInt64)), (.double (4652033697120256000 : UInt64)), (.double (4652042493213278208 : UInt64)), (.double (4652051289306300416 : UInt64))] [(.int (10 : Int32)), (.int (11 : Int32)), (.int (12 : Int32)), (.int (13 : Int32)), (.int (14 : Int32)), (.int (15 : Int32))] [(.double d), (.double e0), (.double (4652024901027233792 : UInt64)), (.double (4652033697120256000 : UInt64)), (.double (4652042493213278208 : UInt64)), (.double (4652051289306300416 : UInt64))] [(.int i2), (.int (10 : Int32)), (.int (12 : Int32)), (.int (13 : Int32)), (.int (14 : Int32)), (.int (15 : Int32))] d i2 T1014.heap n0 z1024 f1019 f1018 fu1014 fw1014 (by decide) (by decide) (by decide) (by decide) rfl rfl (by decide) rfl rfl (own_self hd)) (own_hw hw 16 rfl) (own_hw hw 15 rfl) (by decide) rfl (by rw [hml]; rfl) [(.int (0 : Int32)), (.int (0 : Int32)), (.int (2 : Int32)), (.int (0 : Int32)), (.int (1 : Int32)), (.double d), (.int i2), (.ref b365), (.ref b369), (.ref b870), (.ref b934)] 0 (by decide) (Nat.le_of_eq rfl) (by decide) (by decide) (lenOf own_pd3 rfl) rfl rfl 496 rfl (hb hby at_493) fun v1025 T1025 Lc1025 X1025 hQ1025 => ?_
            obtain ⟨rfl, Nq1025, e1025⟩ := hQ1025
            have N1026 := Fr.app N1015 Nq1025
            show own_Go _ _ _ _ _ (State.setTop _ (mkF _ 496 _ [(.int (1 : Int32))]))
            refine own_ifNo X1025 hx 499 rfl (hb hby at_496) (by decide) ?_
            refine own_iconst X1025 hx 500 rfl (hb hby at_499) (1 : Int32) rfl ?_
            refine own_iload X1025 hx 502 rfl (hb hby at_500) rfl ?_
            refine own_iload X1025 hx 504 rfl (hb hby at_502) rfl ?_
            refine own_iload X1025 hx 506 rfl (hb hby at_504) rfl ?_
            refine own_iload X1025 hx 508 rfl (hb hby at_506) rfl ?_
            refine own_dload X1025 hx 510 rfl (hb hby at_508) rfl ?_
            refine own_iloadN X1025 hx 511 rfl (hb hby at_510) rfl ?_
            refine own_aload X1025 hx 513 rfl (hb hby at_511) rfl rfl ?_
            refine own_aload X1025 hx 515 rfl (hb hby at_513) rfl rfl ?_
            refine own_aload X1025 hx 517 rfl (hb hby at_515) rfl rfl ?_
            refine own_aload X1025 hx 519 rfl (hb hby at_517) rfl rfl ?_
            refine own_callS X1025 hx hZ (y := (⟨"com/example/outpost/outpost/model/DistancesKeepNearerPinLaw", "same", "(IIIIZDI[D[I[D[I)Z"⟩ : MethodName)) hown (own_hw hw 13 rfl) (own_hw hw 14 rfl) (by decide) (rm_same_D l Z a0 hw [] (1 : Int32) (0 : Int32) (2 : Int32) (0 : Int32) d i2 b365 b369 b870 b934 k365 k369 k870 k934 [(.double e0), (.double e1), (.double (4652024901027233792 : UInt64)), (.double (4652033697120256000 : UInt64)), (.double (4652042493213278208 : UInt64)), (.double (4652051289306300416 : UInt64))] [(.int (10 : Int32)), (.int (11 : Int32)), (.int (12 : Int32)), (.int (13 : Int32)), (.int (14 : Int32)), (.int (15 : Int32))] [(.double d), (.double e0), (.double (4652024901027233792 : UInt64)), (.double (4652033697120256000 : UInt64)), (.double (4652042493213278208 : UInt64)), (.double (4652051289306300416 : UInt64))] [(.int i2), (.int (10 : Int32)), (.int (12 : Int32)), (.int (13 : Int32)), (.int (14 : Int32)), (.int (15 : Int32))] e0 (10 : Int32) T1014.heap n0 z1024 f1019 f1018 fu1014 fw1014 (by decide) (by decide) (by decide) (by decide) (by decide) rfl rfl (by decide) rfl rfl (own_self nn0)) (own_hw hw 16 rfl) (own_hw hw 15 rfl) (by decide) e1025 (by rw [hml]; rfl) [(.int (1 : Int32)), (.int (0 : Int32)), (.int (2 : Int32)), (.int (0 : Int32)), (.int (1 : Int32)), (.double d), (.int i2), (.ref b365), (.ref b369), (.ref b870), (.ref b934)] 0 (by decide) (Nat.le_of_eq rfl) (by decide) (by decide) (lenOf own_pd3 rfl) rfl rfl 522 rfl (hb hby at_519) fun v1027 T1027 Lc1027 X1027 hQ1027 => ?_
            obtain ⟨rfl, Nq1027, e1027⟩ := hQ1027
            have N1028 := Fr.app N1026 Nq1027
            show own_Go _ _ _ _ _ (State.setTop _ (mkF _ 522 _ [(.int (1 : Int32))]))
            refine own_ifNo X1027 hx 525 rfl (hb hby at_522) (by decide) ?_
            refine own_iconst X1027 hx 526 rfl (hb hby at_525) (2 : Int32) rfl ?_
            refine own_iload X1027 hx 528 rfl (hb hby at_526) rfl ?_
            refine own_iload X1027 hx 530 rfl (hb hby at_528) rfl ?_
            refine own_iload X1027 hx 532 rfl (hb hby at_530) rfl ?_
            refine own_iload X1027 hx 534 rfl (hb hby at_532) rfl ?_
            refine own_dload X1027 hx 536 rfl (hb hby at_534) rfl ?_
            refine own_iloadN X1027 hx 537 rfl (hb hby at_536) rfl ?_
            refine own_aload X1027 hx 539 rfl (hb hby at_537) rfl rfl ?_
            refine own_aload X1027 hx 541 rfl (hb hby at_539) rfl rfl ?_
            refine own_aload X1027 hx 543 rfl (hb hby at_541) rfl rfl ?_
            refine own_aload X1027 hx 545 rfl (hb hby at_543) rfl rfl ?_
            refine own_callS X1027 hx hZ (y := (⟨"com/example/outpost/outpost/model/DistancesKeepNearerPinLaw", "same", "(IIIIZDI[D[I[D[I)Z"⟩ : MethodName)) hown (own_hw hw 13 rfl) (own_hw hw 14 rfl) (by decide) (rm_same_A3 l Z a0 hw [] (2 : Int32) (0 : Int32) (2 : Int32) (0 : Int32) d i2 b365 b369 b870 b934 k365 k369 k870 k934 [(.double e0), (.double e1), (.double (4652024901027233792 : UInt64)), (.double (4652033697120256000 : UInt64)), (.double (4652042493213278208 : UInt64)), (.double (4652051289306300416 : UInt64))] [(.int (10 : Int32)), (.int (11 : Int32)), (.int (12 : Int32)), (.int (13 : Int32)), (.int (14 : Int32)), (.int (15 : Int32))] [(.double d), (.double e0), (.double (4652024901027233792 : UInt64)), (.double (4652033697120256000 : UInt64)), (.double (4652042493213278208 : UInt64)), (.double (4652051289306300416 : UInt64))] [(.int i2), (.int (10 : Int32)), (.int (12 : Int32)), (.int (13 : Int32)), (.int (14 : Int32)), (.int (15 : Int32))] (4652024901027233792 : UInt64) (12 : Int32) T1014.heap n0 z1024 f1019 f1018 fu1014 fw1014 (by decide) (by decide) (by decide) rfl rfl (by decide) rfl rfl (own_self own_cst.2.2.1)) (own_hw hw 16 rfl) (own_hw hw 15 rfl) (by decide) e1027 (by rw [hml]; rfl) [(.int (2 : Int32)), (.int (0 : Int32)), (.int (2 : Int32)), (.int (0 : Int32)), (.int (1 : Int32)), (.double d), (.int i2), (.ref b365), (.ref b369), (.ref b870), (.ref b934)] 0 (by decide) (Nat.le_of_eq rfl) (by decide) (by decide) (lenOf own_pd3 rfl) rfl rfl 548 rfl (hb hby at_545) fun v1029 T1029 Lc1029 X1029 hQ1029 => ?_
            obtain ⟨rfl, Nq1029, e1029⟩ := hQ1029
            have N1030 := Fr.app N1028 Nq1029
            show own_Go _ _ _ _ _ (State.setTop _ (mkF _ 548 _ [(.int (1 : Int32))]))
            refine own_ifNo X1029 hx 551 rfl (hb hby at_548) (by decide) ?_
            refine own_iconst X1029 hx 552 rfl (hb hby at_551) (3 : Int32) rfl ?_
            refine own_iload X1029 hx 554 rfl (hb hby at_552) rfl ?_
            refine own_iload X1029 hx 556 rfl (hb hby at_554) rfl ?_
            refine own_iload X1029 hx 558 rfl (hb hby at_556) rfl ?_
            refine own_iload X1029 hx 560 rfl (hb hby at_558) rfl ?_
            refine own_dload X1029 hx 562 rfl (hb hby at_560) rfl ?_
            refine own_iloadN X1029 hx 563 rfl (hb hby at_562) rfl ?_
            refine own_aload X1029 hx 565 rfl (hb hby at_563) rfl rfl ?_
            refine own_aload X1029 hx 567 rfl (hb hby at_565) rfl rfl ?_
            refine own_aload X1029 hx 569 rfl (hb hby at_567) rfl rfl ?_
            refine own_aload X1029 hx 571 rfl (hb hby at_569) rfl rfl ?_
            refine own_callS X1029 hx hZ (y := (⟨"com/example/outpost/outpost/model/DistancesKeepNearerPinLaw", "same", "(IIIIZDI[D[I[D[I)Z"⟩ : MethodName)) hown (own_hw hw 13 rfl) (own_hw hw 14 rfl) (by decide) (rm_same_A3 l Z a0 hw [] (3 : Int32) (0 : Int32) (2 : Int32) (0 : Int32) d i2 b365 b369 b870 b934 k365 k369 k870 k934 [(.double e0), (.double e1), (.double (4652024901027233792 : UInt64)), (.double (4652033697120256000 : UInt64)), (.double (4652042493213278208 : UInt64)), (.double (4652051289306300416 : UInt64))] [(.int (10 : Int32)), (.int (11 : Int32)), (.int (12 : Int32)), (.int (13 : Int32)), (.int (14 : Int32)), (.int (15 : Int32))] [(.double d), (.double e0), (.double (4652024901027233792 : UInt64)), (.double (4652033697120256000 : UInt64)), (.double (4652042493213278208 : UInt64)), (.double (4652051289306300416 : UInt64))] [(.int i2), (.int (10 : Int32)), (.int (12 : Int32)), (.int (13 : Int32)), (.int (14 : Int32)), (.int (15 : Int32))] (4652033697120256000 : UInt64) (13 : Int32) T1014.heap n0 z1024 f1019 f1018 fu1014 fw1014 (by decide) (by decide) (by decide) rfl rfl (by decide) rfl rfl (own_self own_cst.2.2.2.1)) (own_hw hw 16 rfl) (own_hw hw 15 rfl) (by decide) e1029 (by rw [hml]; rfl) [(.int (3 : Int32)), (.int (0 : Int32)), (.int (2 : Int32)), (.int (0 : Int32)), (.int (1 : Int32)), (.double d), (.int i2), (.ref b365), (.ref b369), (.ref b870), (.ref b934)] 0 (by decide) (Nat.le_of_eq rfl) (by decide) (by decide) (lenOf own_pd3 rfl) rfl rfl 574 rfl (hb hby at_571) fun v1031 T1031 Lc1031 X1031 hQ1031 => ?_
            obtain ⟨rfl, Nq1031, e1031⟩ := hQ1031
            have N1032 := Fr.app N1030 Nq1031
            show own_Go _ _ _ _ _ (State.setTop _ (mkF _ 574 _ [(.int (1 : Int32))]))
            refine own_ifNo X1031 hx 577 rfl (hb hby at_574) (by decide) ?_
            refine own_iconst X1031 hx 578 rfl (hb hby at_577) (4 : Int32) rfl ?_
            refine own_iload X1031 hx 580 rfl (hb hby at_578) rfl ?_
            refine own_iload X1031 hx 582 rfl (hb hby at_580) rfl ?_
            refine own_iload X1031 hx 584 rfl (hb hby at_582) rfl ?_
            refine own_iload X1031 hx 586 rfl (hb hby at_584) rfl ?_
            refine own_dload X1031 hx 588 rfl (hb hby at_586) rfl ?_
            refine own_iloadN X1031 hx 589 rfl (hb hby at_588) rfl ?_
            refine own_aload X1031 hx 591 rfl (hb hby at_589) rfl rfl ?_
            refine own_aload X1031 hx 593 rfl (hb hby at_591) rfl rfl ?_
            refine own_aload X1031 hx 595 rfl (hb hby at_593) rfl rfl ?_
            refine own_aload X1031 hx 597 rfl (hb hby at_595) rfl rfl ?_
            refine own_callS X1031 hx hZ (y := (⟨"com/example/outpost/outpost/model/DistancesKeepNearerPinLaw", "same", "(IIIIZDI[D[I[D[I)Z"⟩ : MethodName)) hown (own_hw hw 13 rfl) (own_hw hw 14 rfl) (by decide) (rm_same_A3 l Z a0 hw [] (4 : Int32) (0 : Int32) (2 : Int32) (0 : Int32) d i2 b365 b369 b870 b934 k365 k369 k870 k934 [(.double e0), (.double e1), (.double (4652024901027233792 : UInt64)), (.double (4652033697120256000 : UInt64)), (.double (4652042493213278208 : UInt64)), (.double (4652051289306300416 : UInt64))] [(.int (10 : Int32)), (.int (11 : Int32)), (.int (12 : Int32)), (.int (13 : Int32)), (.int (14 : Int32)), (.int (15 : Int32))] [(.double d), (.double e0), (.double (4652024901027233792 : UInt64)), (.double (4652033697120256000 : UInt64)), (.double (4652042493213278208 : UInt64)), (.double (4652051289306300416 : UInt64))] [(.int i2), (.int (10 : Int32)), (.int (12 : Int32)), (.int (13 : Int32)), (.int (14 : Int32)), (.int (15 : Int32))] (4652042493213278208 : UInt64) (14 : Int32) T1014.heap n0 z1024 f1019 f1018 fu1014 fw1014 (by decide) (by decide) (by decide) rfl rfl (by decide) rfl rfl (own_self own_cst.2.2.2.2.1)) (own_hw hw 16 rfl) (own_hw hw 15 rfl) (by decide) e1031 (by rw [hml]; rfl) [(.int (4 : Int32)), (.int (0 : Int32)), (.int (2 : Int32)), (.int (0 : Int32)), (.int (1 : Int32)), (.double d), (.int i2), (.ref b365), (.ref b369), (.ref b870), (.ref b934)] 0 (by decide) (Nat.le_of_eq rfl) (by decide) (by decide) (lenOf own_pd3 rfl) rfl rfl 600 rfl (hb hby at_597) fun v1033 T1033 Lc1033 X1033 hQ1033 => ?_
            obtain ⟨rfl, Nq1033, e1033⟩ := hQ1033
            have N1034 := Fr.app N1032 Nq1033
            show own_Go _ _ _ _ _ (State.setTop _ (mkF _ 600 _ [(.int (1 : Int32))]))
            refine own_ifNo X1033 hx 603 rfl (hb hby at_600) (by decide) ?_
            refine own_iconst X1033 hx 604 rfl (hb hby at_603) (5 : Int32) rfl ?_
            refine own_iload X1033 hx 606 rfl (hb hby at_604) rfl ?_
            refine own_iload X1033 hx 608 rfl (hb hby at_606) rfl ?_
            refine own_iload X1033 hx 610 rfl (hb hby at_608) rfl ?_
            refine own_iload X1033 hx 612 rfl (hb hby at_610) rfl ?_
            refine own_dload X1033 hx 614 rfl (hb hby at_612) rfl ?_
            refine own_iloadN X1033 hx 615 rfl (hb hby at_614) rfl ?_
            refine own_aload X1033 hx 617 rfl (hb hby at_615) rfl rfl ?_
            refine own_aload X1033 hx 619 rfl (hb hby at_617) rfl rfl ?_
            refine own_aload X1033 hx 621 rfl (hb hby at_619) rfl rfl ?_
            refine own_aload X1033 hx 623 rfl (hb hby at_621) rfl rfl ?_
            refine own_callS X1033 hx hZ (y := (⟨"com/example/outpost/outpost/model/DistancesKeepNearerPinLaw", "same", "(IIIIZDI[D[I[D[I)Z"⟩ : MethodName)) hown (own_hw hw 13 rfl) (own_hw hw 14 rfl) (by decide) (rm_same_A3 l Z a0 hw [] (5 : Int32) (0 : Int32) (2 : Int32) (0 : Int32) d i2 b365 b369 b870 b934 k365 k369 k870 k934 [(.double e0), (.double e1), (.double (4652024901027233792 : UInt64)), (.double (4652033697120256000 : UInt64)), (.double (4652042493213278208 : UInt64)), (.double (4652051289306300416 : UInt64))] [(.int (10 : Int32)), (.int (11 : Int32)), (.int (12 : Int32)), (.int (13 : Int32)), (.int (14 : Int32)), (.int (15 : Int32))] [(.double d), (.double e0), (.double (4652024901027233792 : UInt64)), (.double (4652033697120256000 : UInt64)), (.double (4652042493213278208 : UInt64)), (.double (4652051289306300416 : UInt64))] [(.int i2), (.int (10 : Int32)), (.int (12 : Int32)), (.int (13 : Int32)), (.int (14 : Int32)), (.int (15 : Int32))] (4652051289306300416 : UInt64) (15 : Int32) T1014.heap n0 z1024 f1019 f1018 fu1014 fw1014 (by decide) (by decide) (by decide) rfl rfl (by decide) rfl rfl (own_self own_cst.2.2.2.2.2)) (own_hw hw 16 rfl) (own_hw hw 15 rfl) (by decide) e1033 (by rw [hml]; rfl) [(.int (5 : Int32)), (.int (0 : Int32)), (.int (2 : Int32)), (.int (0 : Int32)), (.int (1 : Int32)), (.double d), (.int i2), (.ref b365), (.ref b369), (.ref b870), (.ref b934)] 0 (by decide) (Nat.le_of_eq rfl) (by decide) (by decide) (lenOf own_pd3 rfl) rfl rfl 626 rfl (hb hby at_623) fun v1035 T1035 Lc1035 X1035 hQ1035 => ?_
            obtain ⟨rfl, Nq1035, e1035⟩ := hQ1035
            have N1036 := Fr.app N1034 Nq1035
            show own_Go _ _ _ _ _ (State.setTop _ (mkF _ 626 _ [(.int (1 : Int32))]))
            refine own_ifNo X1035 hx 629 rfl (hb hby at_626) (by decide) ?_
            refine own_iconst X1035 hx 630 rfl (hb hby at_629) (1 : Int32) rfl ?_
            refine own_goto X1035 hx 634 (hb hby at_630) (by decide) rfl ?_
            refine own_ret X1035 (some (.int (1 : Int32))) (fun h => by rw [Bd.returns] at h; cases h) Bd.notSynchronized (by decide) (by decide) ?_ (fun fs hr => retN X1035 hx (t := .boolean) Bd.returns (by simp) (hb hby at_634) hr)
            show Q_rm0 Z i0 i1 i2 h0 n0 _ T1035.heap _
            rw [e1035]
            exact ⟨rfl, N1036⟩
          ·
            by_cases hc1037 : own_z d < own_z e1
            ·
              refine own_dcmp X1002 hx 379 rfl (hb hby at_378) _ rfl ?_
              refine own_ifNo X1002 hx 382 rfl (hb hby at_379) ((if0 _ _).trans (tlt (own_cg hd nn1 hc1037 .g)).2.1) ?_
              refine own_iconst X1002 hx 383 rfl (hb hby at_382) (1 : Int32) rfl ?_
              refine own_goto X1002 hx 387 (hb hby at_383) (by decide) rfl ?_
              refine own_istore X1002 hx 389 rfl (hb hby at_387) #[.val (.int i0), .val (.int i1), .val (.int i2), .val (.double (9218868437227405312 : UInt64)), .second, .val (.int (2 : Int32)), .val (.int (0 : Int32)), .val (.int (own_k i0)), .val (.int f8), .val (.int (own_a0 i1)), .val (.int (own_a1 i1)), .val (.int (own_a2 i1)), .val (.double d), .second, .val (.ref b365), .val (.ref b369), .val (.int (0 : Int32)), .val (.ref b870), .val (.ref b934), .val (.int (1 : Int32)), .unset, .unset] rfl ?_
              refine own_iconst X1002 hx 390 rfl (hb hby at_389) (0 : Int32) rfl ?_
              refine own_istore X1002 hx 392 rfl (hb hby at_390) #[.val (.int i0), .val (.int i1), .val (.int i2), .val (.double (9218868437227405312 : UInt64)), .second, .val (.int (2 : Int32)), .val (.int (0 : Int32)), .val (.int (own_k i0)), .val (.int f8), .val (.int (own_a0 i1)), .val (.int (own_a1 i1)), .val (.int (own_a2 i1)), .val (.double d), .second, .val (.ref b365), .val (.ref b369), .val (.int (0 : Int32)), .val (.ref b870), .val (.ref b934), .val (.int (1 : Int32)), .val (.int (0 : Int32)), .unset] rfl ?_
              refine own_aload X1002 hx 394 rfl (hb hby at_392) rfl rfl ?_
              refine own_iload X1002 hx 396 rfl (hb hby at_394) rfl ?_
              refine own_ldD X1002 hx hZ e1002 f1007 ⟨by decide, by decide⟩ e0 rfl 397 rfl (hb hby at_396) ?_
              refine own_dload X1002 hx 399 rfl (hb hby at_397) rfl ?_
              refine own_dcmp X1002 hx 400 rfl (hb hby at_399) _ rfl ?_
              refine own_ifNo X1002 hx 403 rfl (hb hby at_400) ((if0 _ _).trans (flt (own_cmp_le nn0 hd (Int.not_lt.mp hc1013) .g)).2.2.1) ?_
              refine own_iinc X1002 hx 406 rfl (hb hby at_403) rfl #[.val (.int i0), .val (.int i1), .val (.int i2), .val (.double (9218868437227405312 : UInt64)), .second, .val (.int (2 : Int32)), .val (.int (0 : Int32)), .val (.int (own_k i0)), .val (.int f8), .val (.int (own_a0 i1)), .val (.int (own_a1 i1)), .val (.int (own_a2 i1)), .val (.double d), .second, .val (.ref b365), .val (.ref b369), .val (.int (0 : Int32)), .val (.ref b870), .val (.ref b934), .val (.int (1 : Int32)), .val (.int (1 : Int32)), .unset] rfl ?_
              refine own_iload X1002 hx 408 rfl (hb hby at_406) rfl ?_
              refine own_iconst X1002 hx 409 rfl (hb hby at_408) (2 : Int32) rfl ?_
              refine own_icmpNo X1002 hx 412 rfl (hb hby at_409) (by decide) ?_
              refine own_aload X1002 hx 414 rfl (hb hby at_412) rfl rfl ?_
              refine own_iload X1002 hx 416 rfl (hb hby at_414) rfl ?_
              refine own_iconst X1002 hx 417 rfl (hb hby at_416) (1 : Int32) rfl ?_
              refine own_iadd X1002 hx 418 rfl (hb hby at_417) (1 : Int32) rfl ?_
              refine own_ldD X1002 hx hZ e1002 f1007 ⟨by decide, by decide⟩ e1 rfl 419 rfl (hb hby at_418) ?_
              refine own_dload X1002 hx 421 rfl (hb hby at_419) rfl ?_
              refine own_dcmp X1002 hx 422 rfl (hb hby at_421) _ rfl ?_
              refine own_ifYes X1002 hx 428 (hb hby at_422) ((if0 _ _).trans (tlt (own_cp nn1 hd hc1037 .g)).2.2.1) (by decide) rfl ?_
              refine own_iload X1002 hx 430 rfl (hb hby at_428) rfl ?_
              refine own_iconst X1002 hx 431 rfl (hb hby at_430) (3 : Int32) rfl ?_
              refine own_icmpYes X1002 hx 450 (hb hby at_431) (by decide) (by decide) rfl ?_
              refine own_iloadN X1002 hx 451 rfl (hb hby at_450) rfl ?_
              refine own_dload X1002 hx 453 rfl (hb hby at_451) rfl ?_
              refine own_iload X1002 hx 455 rfl (hb hby at_453) rfl ?_
              refine own_iload X1002 hx 457 rfl (hb hby at_455) rfl ?_
              refine own_aload X1002 hx 459 rfl (hb hby at_457) rfl rfl ?_
              refine own_aload X1002 hx 461 rfl (hb hby at_459) rfl rfl ?_
              refine own_callS X1002 hx hZ (y := (⟨"com/example/outpost/outpost/model/Distances", "keepNearer", "(IDII[D[I)Z"⟩ : MethodName)) hown (own_hw hw 9 rfl) (own_hw hw 10 rfl) (by decide) (rm_keep_2_0_1 l Z a0 hw [] i2 d b870 b934 k870 k934 e0 e1 (4652024901027233792 : UInt64) (4652033697120256000 : UInt64) (4652042493213278208 : UInt64) (4652051289306300416 : UInt64) (10 : Int32) (11 : Int32) (12 : Int32) (13 : Int32) (14 : Int32) (15 : Int32) h1002 n0 z1011 f1009 f1003 ne937 ge873 ge938 (own_cg hd nn1 hc1037 .g) (own_cmp_le nn0 hd (Int.not_lt.mp hc1013) .l)) (own_hw hw 12 rfl) (own_hw hw 11 rfl) (by decide) e1002 (by rw [hml]; rfl) [(.int i2), (.double d), (.int (0 : Int32)), (.int (2 : Int32)), (.ref b870), (.ref b934)] 0 (by decide) (Nat.le_of_eq rfl) (by decide) (by decide) (lenOf own_pd2 rfl) rfl rfl 464 rfl (hb hby at_461) fun v1038 T1038 Lc1038 X1038 hQ1038 => ?_
              obtain ⟨rfl, Nq1038, Kq1038, fu1038, fw1038⟩ := hQ1038
              have N1039 := Fr.app N1012 Nq1038
              have f1040 := f1004.keep Kq1038
              have f1041 := f1005.keep Kq1038
              have f1042 := f1006.keep Kq1038 (ninS ne872 (ninS ne936 nin0))
              have f1043 := f1007.keep Kq1038 (ninS ne871 (ninS ne935 nin0))
              have f1044 := f1008.keep Kq1038
              have f1046 := f1010.keep Kq1038
              have z1048 := Nat.le_trans z1011 Kq1038.1
              show own_Go _ _ _ _ _ (State.setTop _ (mkF _ 464 _ [(.int (1 : Int32))]))
              refine own_istore X1038 hx 466 rfl (hb hby at_464) #[.val (.int i0), .val (.int i1), .val (.int i2), .val (.double (9218868437227405312 : UInt64)), .second, .val (.int (2 : Int32)), .val (.int (0 : Int32)), .val (.int (own_k i0)), .val (.int f8), .val (.int (own_a0 i1)), .val (.int (own_a1 i1)), .val (.int (own_a2 i1)), .val (.double d), .second, .val (.ref b365), .val (.ref b369), .val (.int (0 : Int32)), .val (.ref b870), .val (.ref b934), .val (.int (1 : Int32)), .val (.int (1 : Int32)), .val (.int (1 : Int32))] rfl ?_
              refine own_iload X1038 hx 468 rfl (hb hby at_466) rfl ?_
              refine own_iload X1038 hx 470 rfl (hb hby at_468) rfl ?_
              refine own_icmpNo X1038 hx 473 rfl (hb hby at_470) (by decide) ?_
              refine own_iconst X1038 hx 474 rfl (hb hby at_473) (0 : Int32) rfl ?_
              refine own_iload X1038 hx 476 rfl (hb hby at_474) rfl ?_
              refine own_iload X1038 hx 478 rfl (hb hby at_476) rfl ?_
              refine own_iload X1038 hx 480 rfl (hb hby at_478) rfl ?_
              refine own_iload X1038 hx 482 rfl (hb hby at_480) rfl ?_
              refine own_dload X1038 hx 484 rfl (hb hby at_482) rfl ?_
              refine own_iloadN X1038 hx 485 rfl (hb hby at_484) rfl ?_
              refine own_aload X1038 hx 487 rfl (hb hby at_485) rfl rfl ?_
              refine own_aload X1038 hx 489 rfl (hb hby at_487) rfl rfl ?_
              refine own_aload X1038 hx 491 rfl (hb hby at_489) rfl rfl ?_
              refine own_aload X1038 hx 493 rfl (hb hby at_491) rfl rfl ?_
              refine own_callS X1038 hx hZ (y := (⟨"com/example/outpost/outpost/model/DistancesKeepNearerPinLaw", "same", "(IIIIZDI[D[I[D[I)Z"⟩ : MethodName)) hown (own_hw hw 13 rfl) (own_hw hw 14 rfl) (by decide) (rm_same_B l Z a0 hw [] (0 : Int32) (0 : Int32) (2 : Int32) (1 : Int32) d i2 b365 b369 b870 b934 k365 k369 k870 k934 [(.double e0), (.double e1), (.double (4652024901027233792 : UInt64)), (.double (4652033697120256000 : UInt64)), (.double (4652042493213278208 : UInt64)), (.double (4652051289306300416 : UInt64))] [(.int (10 : Int32)), (.int (11 : Int32)), (.int (12 : Int32)), (.int (13 : Int32)), (.int (14 : Int32)), (.int (15 : Int32))] [(.double e0), (.double d), (.double (4652024901027233792 : UInt64)), (.double (4652033697120256000 : UInt64)), (.double (4652042493213278208 : UInt64)), (.double (4652051289306300416 : UInt64))] [(.int (10 : Int32)), (.int i2), (.int (12 : Int32)), (.int (13 : Int32)), (.int (14 : Int32)), (.int (15 : Int32))] e0 (10 : Int32) T1038.heap n0 z1048 f1043 f1042 fu1038 fw1038 (by decide) (by decide) (by decide) (by decide) rfl rfl (by decide) rfl rfl (own_self nn0)) (own_hw hw 16 rfl) (own_hw hw 15 rfl) (by decide) rfl (by rw [hml]; rfl) [(.int (0 : Int32)), (.int (0 : Int32)), (.int (2 : Int32)), (.int (1 : Int32)), (.int (1 : Int32)), (.double d), (.int i2), (.ref b365), (.ref b369), (.ref b870), (.ref b934)] 0 (by decide) (Nat.le_of_eq rfl) (by decide) (by decide) (lenOf own_pd3 rfl) rfl rfl 496 rfl (hb hby at_493) fun v1049 T1049 Lc1049 X1049 hQ1049 => ?_
              obtain ⟨rfl, Nq1049, e1049⟩ := hQ1049
              have N1050 := Fr.app N1039 Nq1049
              show own_Go _ _ _ _ _ (State.setTop _ (mkF _ 496 _ [(.int (1 : Int32))]))
              refine own_ifNo X1049 hx 499 rfl (hb hby at_496) (by decide) ?_
              refine own_iconst X1049 hx 500 rfl (hb hby at_499) (1 : Int32) rfl ?_
              refine own_iload X1049 hx 502 rfl (hb hby at_500) rfl ?_
              refine own_iload X1049 hx 504 rfl (hb hby at_502) rfl ?_
              refine own_iload X1049 hx 506 rfl (hb hby at_504) rfl ?_
              refine own_iload X1049 hx 508 rfl (hb hby at_506) rfl ?_
              refine own_dload X1049 hx 510 rfl (hb hby at_508) rfl ?_
              refine own_iloadN X1049 hx 511 rfl (hb hby at_510) rfl ?_
              refine own_aload X1049 hx 513 rfl (hb hby at_511) rfl rfl ?_
              refine own_aload X1049 hx 515 rfl (hb hby at_513) rfl rfl ?_
              refine own_aload X1049 hx 517 rfl (hb hby at_515) rfl rfl ?_
              refine own_aload X1049 hx 519 rfl (hb hby at_517) rfl rfl ?_
              refine own_callS X1049 hx hZ (y := (⟨"com/example/outpost/outpost/model/DistancesKeepNearerPinLaw", "same", "(IIIIZDI[D[I[D[I)Z"⟩ : MethodName)) hown (own_hw hw 13 rfl) (own_hw hw 14 rfl) (by decide) (rm_same_C l Z a0 hw [] (1 : Int32) (0 : Int32) (2 : Int32) (1 : Int32) d i2 b365 b369 b870 b934 k365 k369 k870 k934 [(.double e0), (.double e1), (.double (4652024901027233792 : UInt64)), (.double (4652033697120256000 : UInt64)), (.double (4652042493213278208 : UInt64)), (.double (4652051289306300416 : UInt64))] [(.int (10 : Int32)), (.int (11 : Int32)), (.int (12 : Int32)), (.int (13 : Int32)), (.int (14 : Int32)), (.int (15 : Int32))] [(.double e0), (.double d), (.double (4652024901027233792 : UInt64)), (.double (4652033697120256000 : UInt64)), (.double (4652042493213278208 : UInt64)), (.double (4652051289306300416 : UInt64))] [(.int (10 : Int32)), (.int i2), (.int (12 : Int32)), (.int (13 : Int32)), (.int (14 : Int32)), (.int (15 : Int32))] d i2 T1038.heap n0 z1048 f1043 f1042 fu1038 fw1038 (by decide) (by decide) (by decide) (by decide) rfl rfl (by decide) rfl rfl (own_self hd)) (own_hw hw 16 rfl) (own_hw hw 15 rfl) (by decide) e1049 (by rw [hml]; rfl) [(.int (1 : Int32)), (.int (0 : Int32)), (.int (2 : Int32)), (.int (1 : Int32)), (.int (1 : Int32)), (.double d), (.int i2), (.ref b365), (.ref b369), (.ref b870), (.ref b934)] 0 (by decide) (Nat.le_of_eq rfl) (by decide) (by decide) (lenOf own_pd3 rfl) rfl rfl 522 rfl (hb hby at_519) fun v1051 T1051 Lc1051 X1051 hQ1051 => ?_
              obtain ⟨rfl, Nq1051, e1051⟩ := hQ1051
              have N1052 := Fr.app N1050 Nq1051
              show own_Go _ _ _ _ _ (State.setTop _ (mkF _ 522 _ [(.int (1 : Int32))]))
              refine own_ifNo X1051 hx 525 rfl (hb hby at_522) (by decide) ?_
              refine own_iconst X1051 hx 526 rfl (hb hby at_525) (2 : Int32) rfl ?_
              refine own_iload X1051 hx 528 rfl (hb hby at_526) rfl ?_
              refine own_iload X1051 hx 530 rfl (hb hby at_528) rfl ?_
              refine own_iload X1051 hx 532 rfl (hb hby at_530) rfl ?_
              refine own_iload X1051 hx 534 rfl (hb hby at_532) rfl ?_
              refine own_dload X1051 hx 536 rfl (hb hby at_534) rfl ?_
              refine own_iloadN X1051 hx 537 rfl (hb hby at_536) rfl ?_
              refine own_aload X1051 hx 539 rfl (hb hby at_537) rfl rfl ?_
              refine own_aload X1051 hx 541 rfl (hb hby at_539) rfl rfl ?_
              refine own_aload X1051 hx 543 rfl (hb hby at_541) rfl rfl ?_
              refine own_aload X1051 hx 545 rfl (hb hby at_543) rfl rfl ?_
              refine own_callS X1051 hx hZ (y := (⟨"com/example/outpost/outpost/model/DistancesKeepNearerPinLaw", "same", "(IIIIZDI[D[I[D[I)Z"⟩ : MethodName)) hown (own_hw hw 13 rfl) (own_hw hw 14 rfl) (by decide) (rm_same_A3 l Z a0 hw [] (2 : Int32) (0 : Int32) (2 : Int32) (1 : Int32) d i2 b365 b369 b870 b934 k365 k369 k870 k934 [(.double e0), (.double e1), (.double (4652024901027233792 : UInt64)), (.double (4652033697120256000 : UInt64)), (.double (4652042493213278208 : UInt64)), (.double (4652051289306300416 : UInt64))] [(.int (10 : Int32)), (.int (11 : Int32)), (.int (12 : Int32)), (.int (13 : Int32)), (.int (14 : Int32)), (.int (15 : Int32))] [(.double e0), (.double d), (.double (4652024901027233792 : UInt64)), (.double (4652033697120256000 : UInt64)), (.double (4652042493213278208 : UInt64)), (.double (4652051289306300416 : UInt64))] [(.int (10 : Int32)), (.int i2), (.int (12 : Int32)), (.int (13 : Int32)), (.int (14 : Int32)), (.int (15 : Int32))] (4652024901027233792 : UInt64) (12 : Int32) T1038.heap n0 z1048 f1043 f1042 fu1038 fw1038 (by decide) (by decide) (by decide) rfl rfl (by decide) rfl rfl (own_self own_cst.2.2.1)) (own_hw hw 16 rfl) (own_hw hw 15 rfl) (by decide) e1051 (by rw [hml]; rfl) [(.int (2 : Int32)), (.int (0 : Int32)), (.int (2 : Int32)), (.int (1 : Int32)), (.int (1 : Int32)), (.double d), (.int i2), (.ref b365), (.ref b369), (.ref b870), (.ref b934)] 0 (by decide) (Nat.le_of_eq rfl) (by decide) (by decide) (lenOf own_pd3 rfl) rfl rfl 548 rfl (hb hby at_545) fun v1053 T1053 Lc1053 X1053 hQ1053 => ?_
              obtain ⟨rfl, Nq1053, e1053⟩ := hQ1053
              have N1054 := Fr.app N1052 Nq1053
              show own_Go _ _ _ _ _ (State.setTop _ (mkF _ 548 _ [(.int (1 : Int32))]))
              refine own_ifNo X1053 hx 551 rfl (hb hby at_548) (by decide) ?_
              refine own_iconst X1053 hx 552 rfl (hb hby at_551) (3 : Int32) rfl ?_
              refine own_iload X1053 hx 554 rfl (hb hby at_552) rfl ?_
              refine own_iload X1053 hx 556 rfl (hb hby at_554) rfl ?_
              refine own_iload X1053 hx 558 rfl (hb hby at_556) rfl ?_
              refine own_iload X1053 hx 560 rfl (hb hby at_558) rfl ?_
              refine own_dload X1053 hx 562 rfl (hb hby at_560) rfl ?_
              refine own_iloadN X1053 hx 563 rfl (hb hby at_562) rfl ?_
              refine own_aload X1053 hx 565 rfl (hb hby at_563) rfl rfl ?_
              refine own_aload X1053 hx 567 rfl (hb hby at_565) rfl rfl ?_
              refine own_aload X1053 hx 569 rfl (hb hby at_567) rfl rfl ?_
              refine own_aload X1053 hx 571 rfl (hb hby at_569) rfl rfl ?_
              refine own_callS X1053 hx hZ (y := (⟨"com/example/outpost/outpost/model/DistancesKeepNearerPinLaw", "same", "(IIIIZDI[D[I[D[I)Z"⟩ : MethodName)) hown (own_hw hw 13 rfl) (own_hw hw 14 rfl) (by decide) (rm_same_A3 l Z a0 hw [] (3 : Int32) (0 : Int32) (2 : Int32) (1 : Int32) d i2 b365 b369 b870 b934 k365 k369 k870 k934 [(.double e0), (.double e1), (.double (4652024901027233792 : UInt64)), (.double (4652033697120256000 : UInt64)), (.double (4652042493213278208 : UInt64)), (.double (4652051289306300416 : UInt64))] [(.int (10 : Int32)), (.int (11 : Int32)), (.int (12 : Int32)), (.int (13 : Int32)), (.int (14 : Int32)), (.int (15 : Int32))] [(.double e0), (.double d), (.double (4652024901027233792 : UInt64)), (.double (4652033697120256000 : UInt64)), (.double (4652042493213278208 : UInt64)), (.double (4652051289306300416 : UInt64))] [(.int (10 : Int32)), (.int i2), (.int (12 : Int32)), (.int (13 : Int32)), (.int (14 : Int32)), (.int (15 : Int32))] (4652033697120256000 : UInt64) (13 : Int32) T1038.heap n0 z1048 f1043 f1042 fu1038 fw1038 (by decide) (by decide) (by decide) rfl rfl (by decide) rfl rfl (own_self own_cst.2.2.2.1)) (own_hw hw 16 rfl) (own_hw hw 15 rfl) (by decide) e1053 (by rw [hml]; rfl) [(.int (3 : Int32)), (.int (0 : Int32)), (.int (2 : Int32)), (.int (1 : Int32)), (.int (1 : Int32)), (.double d), (.int i2), (.ref b365), (.ref b369), (.ref b870), (.ref b934)] 0 (by decide) (Nat.le_of_eq rfl) (by decide) (by decide) (lenOf own_pd3 rfl) rfl rfl 574 rfl (hb hby at_571) fun v1055 T1055 Lc1055 X1055 hQ1055 => ?_
              obtain ⟨rfl, Nq1055, e1055⟩ := hQ1055
              have N1056 := Fr.app N1054 Nq1055
              show own_Go _ _ _ _ _ (State.setTop _ (mkF _ 574 _ [(.int (1 : Int32))]))
              refine own_ifNo X1055 hx 577 rfl (hb hby at_574) (by decide) ?_
              refine own_iconst X1055 hx 578 rfl (hb hby at_577) (4 : Int32) rfl ?_
              refine own_iload X1055 hx 580 rfl (hb hby at_578) rfl ?_
              refine own_iload X1055 hx 582 rfl (hb hby at_580) rfl ?_
              refine own_iload X1055 hx 584 rfl (hb hby at_582) rfl ?_
              refine own_iload X1055 hx 586 rfl (hb hby at_584) rfl ?_
              refine own_dload X1055 hx 588 rfl (hb hby at_586) rfl ?_
              refine own_iloadN X1055 hx 589 rfl (hb hby at_588) rfl ?_
              refine own_aload X1055 hx 591 rfl (hb hby at_589) rfl rfl ?_
              refine own_aload X1055 hx 593 rfl (hb hby at_591) rfl rfl ?_
              refine own_aload X1055 hx 595 rfl (hb hby at_593) rfl rfl ?_
              refine own_aload X1055 hx 597 rfl (hb hby at_595) rfl rfl ?_
              refine own_callS X1055 hx hZ (y := (⟨"com/example/outpost/outpost/model/DistancesKeepNearerPinLaw", "same", "(IIIIZDI[D[I[D[I)Z"⟩ : MethodName)) hown (own_hw hw 13 rfl) (own_hw hw 14 rfl) (by decide) (rm_same_A3 l Z a0 hw [] (4 : Int32) (0 : Int32) (2 : Int32) (1 : Int32) d i2 b365 b369 b870 b934 k365 k369 k870 k934 [(.double e0), (.double e1), (.double (4652024901027233792 : UInt64)), (.double (4652033697120256000 : UInt64)), (.double (4652042493213278208 : UInt64)), (.double (4652051289306300416 : UInt64))] [(.int (10 : Int32)), (.int (11 : Int32)), (.int (12 : Int32)), (.int (13 : Int32)), (.int (14 : Int32)), (.int (15 : Int32))] [(.double e0), (.double d), (.double (4652024901027233792 : UInt64)), (.double (4652033697120256000 : UInt64)), (.double (4652042493213278208 : UInt64)), (.double (4652051289306300416 : UInt64))] [(.int (10 : Int32)), (.int i2), (.int (12 : Int32)), (.int (13 : Int32)), (.int (14 : Int32)), (.int (15 : Int32))] (4652042493213278208 : UInt64) (14 : Int32) T1038.heap n0 z1048 f1043 f1042 fu1038 fw1038 (by decide) (by decide) (by decide) rfl rfl (by decide) rfl rfl (own_self own_cst.2.2.2.2.1)) (own_hw hw 16 rfl) (own_hw hw 15 rfl) (by decide) e1055 (by rw [hml]; rfl) [(.int (4 : Int32)), (.int (0 : Int32)), (.int (2 : Int32)), (.int (1 : Int32)), (.int (1 : Int32)), (.double d), (.int i2), (.ref b365), (.ref b369), (.ref b870), (.ref b934)] 0 (by decide) (Nat.le_of_eq rfl) (by decide) (by decide) (lenOf own_pd3 rfl) rfl rfl 600 rfl (hb hby at_597) fun v1057 T1057 Lc1057 X1057 hQ1057 => ?_
              obtain ⟨rfl, Nq1057, e1057⟩ := hQ1057
              have N1058 := Fr.app N1056 Nq1057
              show own_Go _ _ _ _ _ (State.setTop _ (mkF _ 600 _ [(.int (1 : Int32))]))
              refine own_ifNo X1057 hx 603 rfl (hb hby at_600) (by decide) ?_
              refine own_iconst X1057 hx 604 rfl (hb hby at_603) (5 : Int32) rfl ?_
              refine own_iload X1057 hx 606 rfl (hb hby at_604) rfl ?_
              refine own_iload X1057 hx 608 rfl (hb hby at_606) rfl ?_
              refine own_iload X1057 hx 610 rfl (hb hby at_608) rfl ?_
              refine own_iload X1057 hx 612 rfl (hb hby at_610) rfl ?_
              refine own_dload X1057 hx 614 rfl (hb hby at_612) rfl ?_
              refine own_iloadN X1057 hx 615 rfl (hb hby at_614) rfl ?_
              refine own_aload X1057 hx 617 rfl (hb hby at_615) rfl rfl ?_
              refine own_aload X1057 hx 619 rfl (hb hby at_617) rfl rfl ?_
              refine own_aload X1057 hx 621 rfl (hb hby at_619) rfl rfl ?_
              refine own_aload X1057 hx 623 rfl (hb hby at_621) rfl rfl ?_
              refine own_callS X1057 hx hZ (y := (⟨"com/example/outpost/outpost/model/DistancesKeepNearerPinLaw", "same", "(IIIIZDI[D[I[D[I)Z"⟩ : MethodName)) hown (own_hw hw 13 rfl) (own_hw hw 14 rfl) (by decide) (rm_same_A3 l Z a0 hw [] (5 : Int32) (0 : Int32) (2 : Int32) (1 : Int32) d i2 b365 b369 b870 b934 k365 k369 k870 k934 [(.double e0), (.double e1), (.double (4652024901027233792 : UInt64)), (.double (4652033697120256000 : UInt64)), (.double (4652042493213278208 : UInt64)), (.double (4652051289306300416 : UInt64))] [(.int (10 : Int32)), (.int (11 : Int32)), (.int (12 : Int32)), (.int (13 : Int32)), (.int (14 : Int32)), (.int (15 : Int32))] [(.double e0), (.double d), (.double (4652024901027233792 : UInt64)), (.double (4652033697120256000 : UInt64)), (.double (4652042493213278208 : UInt64)), (.double (4652051289306300416 : UInt64))] [(.int (10 : Int32)), (.int i2), (.int (12 : Int32)), (.int (13 : Int32)), (.int (14 : Int32)), (.int (15 : Int32))] (4652051289306300416 : UInt64) (15 : Int32) T1038.heap n0 z1048 f1043 f1042 fu1038 fw1038 (by decide) (by decide) (by decide) rfl rfl (by decide) rfl rfl (own_self own_cst.2.2.2.2.2)) (own_hw hw 16 rfl) (own_hw hw 15 rfl) (by decide) e1057 (by rw [hml]; rfl) [(.int (5 : Int32)), (.int (0 : Int32)), (.int (2 : Int32)), (.int (1 : Int32)), (.int (1 : Int32)), (.double d), (.int i2), (.ref b365), (.ref b369), (.ref b870), (.ref b934)] 0 (by decide) (Nat.le_of_eq rfl) (by decide) (by decide) (lenOf own_pd3 rfl) rfl rfl 626 rfl (hb hby at_623) fun v1059 T1059 Lc1059 X1059 hQ1059 => ?_
              obtain ⟨rfl, Nq1059, e1059⟩ := hQ1059
              have N1060 := Fr.app N1058 Nq1059
              show own_Go _ _ _ _ _ (State.setTop _ (mkF _ 626 _ [(.int (1 : Int32))]))
              refine own_ifNo X1059 hx 629 rfl (hb hby at_626) (by decide) ?_
              refine own_iconst X1059 hx 630 rfl (hb hby at_629) (1 : Int32) rfl ?_
              refine own_goto X1059 hx 634 (hb hby at_630) (by decide) rfl ?_
              refine own_ret X1059 (some (.int (1 : Int32))) (fun h => by rw [Bd.returns] at h; cases h) Bd.notSynchronized (by decide) (by decide) ?_ (fun fs hr => retN X1059 hx (t := .boolean) Bd.returns (by simp) (hb hby at_634) hr)
              show Q_rm0 Z i0 i1 i2 h0 n0 _ T1059.heap _
              rw [e1059]
              exact ⟨rfl, N1060⟩
            ·
              refine own_dcmp X1002 hx 379 rfl (hb hby at_378) _ rfl ?_
              refine own_ifYes X1002 hx 386 (hb hby at_379) ((if0 _ _).trans (flt (own_cmp_ge hd nn1 (Int.not_lt.mp hc1037) .g)).2.1) (by decide) rfl ?_
              refine own_iconst X1002 hx 387 rfl (hb hby at_386) (0 : Int32) rfl ?_
              refine own_istore X1002 hx 389 rfl (hb hby at_387) #[.val (.int i0), .val (.int i1), .val (.int i2), .val (.double (9218868437227405312 : UInt64)), .second, .val (.int (2 : Int32)), .val (.int (0 : Int32)), .val (.int (own_k i0)), .val (.int f8), .val (.int (own_a0 i1)), .val (.int (own_a1 i1)), .val (.int (own_a2 i1)), .val (.double d), .second, .val (.ref b365), .val (.ref b369), .val (.int (0 : Int32)), .val (.ref b870), .val (.ref b934), .val (.int (0 : Int32)), .unset, .unset] rfl ?_
              refine own_iconst X1002 hx 390 rfl (hb hby at_389) (0 : Int32) rfl ?_
              refine own_istore X1002 hx 392 rfl (hb hby at_390) #[.val (.int i0), .val (.int i1), .val (.int i2), .val (.double (9218868437227405312 : UInt64)), .second, .val (.int (2 : Int32)), .val (.int (0 : Int32)), .val (.int (own_k i0)), .val (.int f8), .val (.int (own_a0 i1)), .val (.int (own_a1 i1)), .val (.int (own_a2 i1)), .val (.double d), .second, .val (.ref b365), .val (.ref b369), .val (.int (0 : Int32)), .val (.ref b870), .val (.ref b934), .val (.int (0 : Int32)), .val (.int (0 : Int32)), .unset] rfl ?_
              refine own_aload X1002 hx 394 rfl (hb hby at_392) rfl rfl ?_
              refine own_iload X1002 hx 396 rfl (hb hby at_394) rfl ?_
              refine own_ldD X1002 hx hZ e1002 f1007 ⟨by decide, by decide⟩ e0 rfl 397 rfl (hb hby at_396) ?_
              refine own_dload X1002 hx 399 rfl (hb hby at_397) rfl ?_
              refine own_dcmp X1002 hx 400 rfl (hb hby at_399) _ rfl ?_
              refine own_ifNo X1002 hx 403 rfl (hb hby at_400) ((if0 _ _).trans (flt (own_cmp_le nn0 hd (Int.not_lt.mp hc1013) .g)).2.2.1) ?_
              refine own_iinc X1002 hx 406 rfl (hb hby at_403) rfl #[.val (.int i0), .val (.int i1), .val (.int i2), .val (.double (9218868437227405312 : UInt64)), .second, .val (.int (2 : Int32)), .val (.int (0 : Int32)), .val (.int (own_k i0)), .val (.int f8), .val (.int (own_a0 i1)), .val (.int (own_a1 i1)), .val (.int (own_a2 i1)), .val (.double d), .second, .val (.ref b365), .val (.ref b369), .val (.int (0 : Int32)), .val (.ref b870), .val (.ref b934), .val (.int (0 : Int32)), .val (.int (1 : Int32)), .unset] rfl ?_
              refine own_iload X1002 hx 408 rfl (hb hby at_406) rfl ?_
              refine own_iconst X1002 hx 409 rfl (hb hby at_408) (2 : Int32) rfl ?_
              refine own_icmpNo X1002 hx 412 rfl (hb hby at_409) (by decide) ?_
              refine own_aload X1002 hx 414 rfl (hb hby at_412) rfl rfl ?_
              refine own_iload X1002 hx 416 rfl (hb hby at_414) rfl ?_
              refine own_iconst X1002 hx 417 rfl (hb hby at_416) (1 : Int32) rfl ?_
              refine own_iadd X1002 hx 418 rfl (hb hby at_417) (1 : Int32) rfl ?_
              refine own_ldD X1002 hx hZ e1002 f1007 ⟨by decide, by decide⟩ e1 rfl 419 rfl (hb hby at_418) ?_
              refine own_dload X1002 hx 421 rfl (hb hby at_419) rfl ?_
              refine own_dcmp X1002 hx 422 rfl (hb hby at_421) _ rfl ?_
              refine own_ifNo X1002 hx 425 rfl (hb hby at_422) ((if0 _ _).trans (flt (own_cmp_le nn1 hd (Int.not_lt.mp hc1037) .g)).2.2.1) ?_
              refine own_iinc X1002 hx 428 rfl (hb hby at_425) rfl #[.val (.int i0), .val (.int i1), .val (.int i2), .val (.double (9218868437227405312 : UInt64)), .second, .val (.int (2 : Int32)), .val (.int (0 : Int32)), .val (.int (own_k i0)), .val (.int f8), .val (.int (own_a0 i1)), .val (.int (own_a1 i1)), .val (.int (own_a2 i1)), .val (.double d), .second, .val (.ref b365), .val (.ref b369), .val (.int (0 : Int32)), .val (.ref b870), .val (.ref b934), .val (.int (0 : Int32)), .val (.int (2 : Int32)), .unset] rfl ?_
              refine own_iload X1002 hx 430 rfl (hb hby at_428) rfl ?_
              refine own_iconst X1002 hx 431 rfl (hb hby at_430) (3 : Int32) rfl ?_
              refine own_icmpYes X1002 hx 450 (hb hby at_431) (by decide) (by decide) rfl ?_
              refine own_iloadN X1002 hx 451 rfl (hb hby at_450) rfl ?_
              refine own_dload X1002 hx 453 rfl (hb hby at_451) rfl ?_
              refine own_iload X1002 hx 455 rfl (hb hby at_453) rfl ?_
              refine own_iload X1002 hx 457 rfl (hb hby at_455) rfl ?_
              refine own_aload X1002 hx 459 rfl (hb hby at_457) rfl rfl ?_
              refine own_aload X1002 hx 461 rfl (hb hby at_459) rfl rfl ?_
              refine own_callS X1002 hx hZ (y := (⟨"com/example/outpost/outpost/model/Distances", "keepNearer", "(IDII[D[I)Z"⟩ : MethodName)) hown (own_hw hw 9 rfl) (own_hw hw 10 rfl) (by decide) (rm_keep_2_0_n l Z a0 hw [] i2 d b870 b934 k870 k934 e0 e1 (4652024901027233792 : UInt64) (4652033697120256000 : UInt64) (4652042493213278208 : UInt64) (4652051289306300416 : UInt64) (10 : Int32) (11 : Int32) (12 : Int32) (13 : Int32) (14 : Int32) (15 : Int32) h1002 n0 z1011 f1009 f1003 ne937 ge873 ge938 (own_cmp_ge hd nn1 (Int.not_lt.mp hc1037) .g)) (own_hw hw 12 rfl) (own_hw hw 11 rfl) (by decide) e1002 (by rw [hml]; rfl) [(.int i2), (.double d), (.int (0 : Int32)), (.int (2 : Int32)), (.ref b870), (.ref b934)] 0 (by decide) (Nat.le_of_eq rfl) (by decide) (by decide) (lenOf own_pd2 rfl) rfl rfl 464 rfl (hb hby at_461) fun v1061 T1061 Lc1061 X1061 hQ1061 => ?_
              obtain ⟨rfl, Nq1061, Kq1061, fu1061, fw1061⟩ := hQ1061
              have N1062 := Fr.app N1012 Nq1061
              have f1063 := f1004.keep Kq1061
              have f1064 := f1005.keep Kq1061
              have f1065 := f1006.keep Kq1061 (ninS ne872 (ninS ne936 nin0))
              have f1066 := f1007.keep Kq1061 (ninS ne871 (ninS ne935 nin0))
              have f1067 := f1008.keep Kq1061
              have f1069 := f1010.keep Kq1061
              have z1071 := Nat.le_trans z1011 Kq1061.1
              show own_Go _ _ _ _ _ (State.setTop _ (mkF _ 464 _ [(.int (0 : Int32))]))
              refine own_istore X1061 hx 466 rfl (hb hby at_464) #[.val (.int i0), .val (.int i1), .val (.int i2), .val (.double (9218868437227405312 : UInt64)), .second, .val (.int (2 : Int32)), .val (.int (0 : Int32)), .val (.int (own_k i0)), .val (.int f8), .val (.int (own_a0 i1)), .val (.int (own_a1 i1)), .val (.int (own_a2 i1)), .val (.double d), .second, .val (.ref b365), .val (.ref b369), .val (.int (0 : Int32)), .val (.ref b870), .val (.ref b934), .val (.int (0 : Int32)), .val (.int (2 : Int32)), .val (.int (0 : Int32))] rfl ?_
              refine own_iload X1061 hx 468 rfl (hb hby at_466) rfl ?_
              refine own_iload X1061 hx 470 rfl (hb hby at_468) rfl ?_
              refine own_icmpNo X1061 hx 473 rfl (hb hby at_470) (by decide) ?_
              refine own_iconst X1061 hx 474 rfl (hb hby at_473) (0 : Int32) rfl ?_
              refine own_iload X1061 hx 476 rfl (hb hby at_474) rfl ?_
              refine own_iload X1061 hx 478 rfl (hb hby at_476) rfl ?_
              refine own_iload X1061 hx 480 rfl (hb hby at_478) rfl ?_
              refine own_iload X1061 hx 482 rfl (hb hby at_480) rfl ?_
              refine own_dload X1061 hx 484 rfl (hb hby at_482) rfl ?_
              refine own_iloadN X1061 hx 485 rfl (hb hby at_484) rfl ?_
              refine own_aload X1061 hx 487 rfl (hb hby at_485) rfl rfl ?_
              refine own_aload X1061 hx 489 rfl (hb hby at_487) rfl rfl ?_
              refine own_aload X1061 hx 491 rfl (hb hby at_489) rfl rfl ?_
              refine own_aload X1061 hx 493 rfl (hb hby at_491) rfl rfl ?_
              refine own_callS X1061 hx hZ (y := (⟨"com/example/outpost/outpost/model/DistancesKeepNearerPinLaw", "same", "(IIIIZDI[D[I[D[I)Z"⟩ : MethodName)) hown (own_hw hw 13 rfl) (own_hw hw 14 rfl) (by decide) (rm_same_A1 l Z a0 hw [] (0 : Int32) (0 : Int32) (2 : Int32) (2 : Int32) d i2 b365 b369 b870 b934 k365 k369 k870 k934 [(.double e0), (.double e1), (.double (4652024901027233792 : UInt64)), (.double (4652033697120256000 : UInt64)), (.double (4652042493213278208 : UInt64)), (.double (4652051289306300416 : UInt64))] [(.int (10 : Int32)), (.int (11 : Int32)), (.int (12 : Int32)), (.int (13 : Int32)), (.int (14 : Int32)), (.int (15 : Int32))] [(.double e0), (.double e1), (.double (4652024901027233792 : UInt64)), (.double (4652033697120256000 : UInt64)), (.double (4652042493213278208 : UInt64)), (.double (4652051289306300416 : UInt64))] [(.int (10 : Int32)), (.int (11 : Int32)), (.int (12 : Int32)), (.int (13 : Int32)), (.int (14 : Int32)), (.int (15 : Int32))] e0 (10 : Int32) T1061.heap n0 z1071 f1066 f1065 fu1061 fw1061 (by decide) rfl rfl (by decide) rfl rfl (own_self nn0)) (own_hw hw 16 rfl) (own_hw hw 15 rfl) (by decide) rfl (by rw [hml]; rfl) [(.int (0 : Int32)), (.int (0 : Int32)), (.int (2 : Int32)), (.int (2 : Int32)), (.int (0 : Int32)), (.double d), (.int i2), (.ref b365), (.ref b369), (.ref b870), (.ref b934)] 0 (by decide) (Nat.le_of_eq rfl) (by decide) (by decide) (lenOf own_pd3 rfl) rfl rfl 496 rfl (hb hby at_493) fun v1072 T1072 Lc1072 X1072 hQ1072 => ?_
              obtain ⟨rfl, Nq1072, e1072⟩ := hQ1072
              have N1073 := Fr.app N1062 Nq1072
              show own_Go _ _ _ _ _ (State.setTop _ (mkF _ 496 _ [(.int (1 : Int32))]))
              refine own_ifNo X1072 hx 499 rfl (hb hby at_496) (by decide) ?_
              refine own_iconst X1072 hx 500 rfl (hb hby at_499) (1 : Int32) rfl ?_
              refine own_iload X1072 hx 502 rfl (hb hby at_500) rfl ?_
              refine own_iload X1072 hx 504 rfl (hb hby at_502) rfl ?_
              refine own_iload X1072 hx 506 rfl (hb hby at_504) rfl ?_
              refine own_iload X1072 hx 508 rfl (hb hby at_506) rfl ?_
              refine own_dload X1072 hx 510 rfl (hb hby at_508) rfl ?_
              refine own_iloadN X1072 hx 511 rfl (hb hby at_510) rfl ?_
              refine own_aload X1072 hx 513 rfl (hb hby at_511) rfl rfl ?_
              refine own_aload X1072 hx 515 rfl (hb hby at_513) rfl rfl ?_
              refine own_aload X1072 hx 517 rfl (hb hby at_515) rfl rfl ?_
              refine own_aload X1072 hx 519 rfl (hb hby at_517) rfl rfl ?_
              refine own_callS X1072 hx hZ (y := (⟨"com/example/outpost/outpost/model/DistancesKeepNearerPinLaw", "same", "(IIIIZDI[D[I[D[I)Z"⟩ : MethodName)) hown (own_hw hw 13 rfl) (own_hw hw 14 rfl) (by decide) (rm_same_A1 l Z a0 hw [] (1 : Int32) (0 : Int32) (2 : Int32) (2 : Int32) d i2 b365 b369 b870 b934 k365 k369 k870 k934 [(.double e0), (.double e1), (.double (4652024901027233792 : UInt64)), (.double (4652033697120256000 : UInt64)), (.double (4652042493213278208 : UInt64)), (.double (4652051289306300416 : UInt64))] [(.int (10 : Int32)), (.int (11 : Int32)), (.int (12 : Int32)), (.int (13 : Int32)), (.int (14 : Int32)), (.int (15 : Int32))] [(.double e0), (.double e1), (.double (4652024901027233792 : UInt64)), (.double (4652033697120256000 : UInt64)), (.double (4652042493213278208 : UInt64)), (.double (4652051289306300416 : UInt64))] [(.int (10 : Int32)), (.int (11 : Int32)), (.int (12 : Int32)), (.int (13 : Int32)), (.int (14 : Int32)), (.int (15 : Int32))] e1 (11 : Int32) T1061.heap n0 z1071 f1066 f1065 fu1061 fw1061 (by decide) rfl rfl (by decide) rfl rfl (own_self nn1)) (own_hw hw 16 rfl) (own_hw hw 15 rfl) (by decide) e1072 (by rw [hml]; rfl) [(.int (1 : Int32)), (.int (0 : Int32)), (.int (2 : Int32)), (.int (2 : Int32)), (.int (0 : Int32)), (.double d), (.int i2), (.ref b365), (.ref b369), (.ref b870), (.ref b934)] 0 (by decide) (Nat.le_of_eq rfl) (by decide) (by decide) (lenOf own_pd3 rfl) rfl rfl 522 rfl (hb hby at_519) fun v1074 T1074 Lc1074 X1074 hQ1074 => ?_
              obtain ⟨rfl, Nq1074, e1074⟩ := hQ1074
              have N1075 := Fr.app N1073 Nq1074
              show own_Go _ _ _ _ _ (State.setTop _ (mkF _ 522 _ [(.int (1 : Int32))]))
              refine own_ifNo X1074 hx 525 rfl (hb hby at_522) (by decide) ?_
              refine own_iconst X1074 hx 526 rfl (hb hby at_525) (2 : Int32) rfl ?_
              refine own_iload X1074 hx 528 rfl (hb hby at_526) rfl ?_
              refine own_iload X1074 hx 530 rfl (hb hby at_528) rfl ?_
              refine own_iload X1074 hx 532 rfl (hb hby at_530) rfl ?_
              refine own_iload X1074 hx 534 rfl (hb hby at_532) rfl ?_
              refine own_dload X1074 hx 536 rfl (hb hby at_534) rfl ?_
              refine own_iloadN X1074 hx 537 rfl (hb hby at_536) rfl ?_
              refine own_aload X1074 hx 539 rfl (hb hby at_537) rfl rfl ?_
              refine own_aload X1074 hx 541 rfl (hb hby at_539) rfl rfl ?_
              refine own_aload X1074 hx 543 rfl (hb hby at_541) rfl rfl ?_
              refine own_aload X1074 hx 545 rfl (hb hby at_543) rfl rfl ?_
              refine own_callS X1074 hx hZ (y := (⟨"com/example/outpost/outpost/model/DistancesKeepNearerPinLaw", "same", "(IIIIZDI[D[I[D[I)Z"⟩ : MethodName)) hown (own_hw hw 13 rfl) (own_hw hw 14 rfl) (by decide) (rm_same_A1 l Z a0 hw [] (2 : Int32) (0 : Int32) (2 : Int32) (2 : Int32) d i2 b365 b369 b870 b934 k365 k369 k870 k934 [(.double e0), (.double e1), (.double (4652024901027233792 : UInt64)), (.double (4652033697120256000 : UInt64)), (.double (4652042493213278208 : UInt64)), (.double (4652051289306300416 : UInt64))] [(.int (10 : Int32)), (.int (11 : Int32)), (.int (12 : Int32)), (.int (13 : Int32)), (.int (14 : Int32)), (.int (15 : Int32))] [(.double e0), (.double e1), (.double (4652024901027233792 : UInt64)), (.double (4652033697120256000 : UInt64)), (.double (4652042493213278208 : UInt64)), (.double (4652051289306300416 : UInt64))] [(.int (10 : Int32)), (.int (11 : Int32)), (.int (12 : Int32)), (.int (13 : Int32)), (.int (14 : Int32)), (.int (15 : Int32))] (4652024901027233792 : UInt64) (12 : Int32) T1061.heap n0 z1071 f1066 f1065 fu1061 fw1061 (by decide) rfl rfl (by decide) rfl rfl (own_self own_cst.2.2.1)) (own_hw hw 16 rfl) (own_hw hw 15 rfl) (by decide) e1074 (by rw [hml]; rfl) [(.int (2 : Int32)), (.int (0 : Int32)), (.int (2 : Int32)), (.int (2 : Int32)), (.int (0 : Int32)), (.double d), (.int i2), (.ref b365), (.ref b369), (.ref b870), (.ref b934)] 0 (by decide) (Nat.le_of_eq rfl) (by decide) (by decide) (lenOf own_pd3 rfl) rfl rfl 548 rfl (hb hby at_545) fun v1076 T1076 Lc1076 X1076 hQ1076 => ?_
              obtain ⟨rfl, Nq1076, e1076⟩ := hQ1076
              have N1077 := Fr.app N1075 Nq1076
              show own_Go _ _ _ _ _ (State.setTop _ (mkF _ 548 _ [(.int (1 : Int32))]))
              refine own_ifNo X1076 hx 551 rfl (hb hby at_548) (by decide) ?_
              refine own_iconst X1076 hx 552 rfl (hb hby at_551) (3 : Int32) rfl ?_
              refine own_iload X1076 hx 554 rfl (hb hby at_552) rfl ?_
              refine own_iload X1076 hx 556 rfl (hb hby at_554) rfl ?_
              refine own_iload X1076 hx 558 rfl (hb hby at_556) rfl ?_
              refine own_iload X1076 hx 560 rfl (hb hby at_558) rfl ?_
              refine own_dload X1076 hx 562 rfl (hb hby at_560) rfl ?_
              refine own_iloadN X1076 hx 563 rfl (hb hby at_562) rfl ?_
              refine own_aload X1076 hx 565 rfl (hb hby at_563) rfl rfl ?_
              refine own_aload X1076 hx 567 rfl (hb hby at_565) rfl rfl ?_
              refine own_aload X1076 hx 569 rfl (hb hby at_567) rfl rfl ?_
              refine own_aload X1076 hx 571 rfl (hb hby at_569) rfl rfl ?_
              refine own_callS X1076 hx hZ (y := (⟨"com/example/outpost/outpost/model/DistancesKeepNearerPinLaw", "same", "(IIIIZDI[D[I[D[I)Z"⟩ : MethodName)) hown (own_hw hw 13 rfl) (own_hw hw 14 rfl) (by decide) (rm_same_A1 l Z a0 hw [] (3 : Int32) (0 : Int32) (2 : Int32) (2 : Int32) d i2 b365 b369 b870 b934 k365 k369 k870 k934 [(.double e0), (.double e1), (.double (4652024901027233792 : UInt64)), (.double (4652033697120256000 : UInt64)), (.double (4652042493213278208 : UInt64)), (.double (4652051289306300416 : UInt64))] [(.int (10 : Int32)), (.int (11 : Int32)), (.int (12 : Int32)), (.int (13 : Int32)), (.int (14 : Int32)), (.int (15 : Int32))] [(.double e0), (.double e1), (.double (4652024901027233792 : UInt64)), (.double (4652033697120256000 : UInt64)), (.double (4652042493213278208 : UInt64)), (.double (4652051289306300416 : UInt64))] [(.int (10 : Int32)), (.int (11 : Int32)), (.int (12 : Int32)), (.int (13 : Int32)), (.int (14 : Int32)), (.int (15 : Int32))] (4652033697120256000 : UInt64) (13 : Int32) T1061.heap n0 z1071 f1066 f1065 fu1061 fw1061 (by decide) rfl rfl (by decide) rfl rfl (own_self own_cst.2.2.2.1)) (own_hw hw 16 rfl) (own_hw hw 15 rfl) (by decide) e1076 (by rw [hml]; rfl) [(.int (3 : Int32)), (.int (0 : Int32)), (.int (2 : Int32)), (.int (2 : Int32)), (.int (0 : Int32)), (.double d), (.int i2), (.ref b365), (.ref b369), (.ref b870), (.ref b934)] 0 (by decide) (Nat.le_of_eq rfl) (by decide) (by decide) (lenOf own_pd3 rfl) rfl rfl 574 rfl (hb hby at_571) fun v1078 T1078 Lc1078 X1078 hQ1078 => ?_
              obtain ⟨rfl, Nq1078, e1078⟩ := hQ1078
              have N1079 := Fr.app N1077 Nq1078
              show own_Go _ _ _ _ _ (State.setTop _ (mkF _ 574 _ [(.int (1 : Int32))]))
              refine own_ifNo X1078 hx 577 rfl (hb hby at_574) (by decide) ?_
              refine own_iconst X1078 hx 578 rfl (hb hby at_577) (4 : Int32) rfl ?_
              refine own_iload X1078 hx 580 rfl (hb hby at_578) rfl ?_
              refine own_iload X1078 hx 582 rfl (hb hby at_580) rfl ?_
              refine own_iload X1078 hx 584 rfl (hb hby at_582) rfl ?_
              refine own_iload X1078 hx 586 rfl (hb hby at_584) rfl ?_
              refine own_dload X1078 hx 588 rfl (hb hby at_586) rfl ?_
              refine own_iloadN X1078 hx 589 rfl (hb hby at_588) rfl ?_
              refine own_aload X1078 hx 591 rfl (hb hby at_589) rfl rfl ?_
              refine own_aload X1078 hx 593 rfl (hb hby at_591) rfl rfl ?_
              refine own_aload X1078 hx 595 rfl (hb hby at_593) rfl rfl ?_
              refine own_aload X1078 hx 597 rfl (hb hby at_595) rfl rfl ?_
              refine own_callS X1078 hx hZ (y := (⟨"com/example/outpost/outpost/model/DistancesKeepNearerPinLaw", "same", "(IIIIZDI[D[I[D[I)Z"⟩ : MethodName)) hown (own_hw hw 13 rfl) (own_hw hw 14 rfl) (by decide) (rm_same_A1 l Z a0 hw [] (4 : Int32) (0 : Int32) (2 : Int32) (2 : Int32) d i2 b365 b369 b870 b934 k365 k369 k870 k934 [(.double e0), (.double e1), (.double (4652024901027233792 : UInt64)), (.double (4652033697120256000 : UInt64)), (.double (4652042493213278208 : UInt64)), (.double (4652051289306300416 : UInt64))] [(.int (10 : Int32)), (.int (11 : Int32)), (.int (12 : Int32)), (.int (13 : Int32)), (.int (14 : Int32)), (.int (15 : Int32))] [(.double e0), (.double e1), (.double (4652024901027233792 : UInt64)), (.double (4652033697120256000 : UInt64)), (.double (4652042493213278208 : UInt64)), (.double (4652051289306300416 : UInt64))] [(.int (10 : Int32)), (.int (11 : Int32)), (.int (12 : Int32)), (.int (13 : Int32)), (.int (14 : Int32)), (.int (15 : Int32))] (4652042493213278208 : UInt64) (14 : Int32) T1061.heap n0 z1071 f1066 f1065 fu1061 fw1061 (by decide) rfl rfl (by decide) rfl rfl (own_self own_cst.2.2.2.2.1)) (own_hw hw 16 rfl) (own_hw hw 15 rfl) (by decide) e1078 (by rw [hml]; rfl) [(.int (4 : Int32)), (.int (0 : Int32)), (.int (2 : Int32)), (.int (2 : Int32)), (.int (0 : Int32)), (.double d), (.int i2), (.ref b365), (.ref b369), (.ref b870), (.ref b934)] 0 (by decide) (Nat.le_of_eq rfl) (by decide) (by decide) (lenOf own_pd3 rfl) rfl rfl 600 rfl (hb hby at_597) fun v1080 T1080 Lc1080 X1080 hQ1080 => ?_
              obtain ⟨rfl, Nq1080, e1080⟩ := hQ1080
              have N1081 := Fr.app N1079 Nq1080
              show own_Go _ _ _ _ _ (State.setTop _ (mkF _ 600 _ [(.int (1 : Int32))]))
              refine own_ifNo X1080 hx 603 rfl (hb hby at_600) (by decide) ?_
              refine own_iconst X1080 hx 604 rfl (hb hby at_603) (5 : Int32) rfl ?_
              refine own_iload X1080 hx 606 rfl (hb hby at_604) rfl ?_
              refine own_iload X1080 hx 608 rfl (hb hby at_606) rfl ?_
              refine own_iload X1080 hx 610 rfl (hb hby at_608) rfl ?_
              refine own_iload X1080 hx 612 rfl (hb hby at_610) rfl ?_
              refine own_dload X1080 hx 614 rfl (hb hby at_612) rfl ?_
              refine own_iloadN X1080 hx 615 rfl (hb hby at_614) rfl ?_
              refine own_aload X1080 hx 617 rfl (hb hby at_615) rfl rfl ?_
              refine own_aload X1080 hx 619 rfl (hb hby at_617) rfl rfl ?_
              refine own_aload X1080 hx 621 rfl (hb hby at_619) rfl rfl ?_
              refine own_aload X1080 hx 623 rfl (hb hby at_621) rfl rfl ?_
              refine own_callS X1080 hx hZ (y := (⟨"com/example/outpost/outpost/model/DistancesKeepNearerPinLaw", "same", "(IIIIZDI[D[I[D[I)Z"⟩ : MethodName)) hown (own_hw hw 13 rfl) (own_hw hw 14 rfl) (by decide) (rm_same_A1 l Z a0 hw [] (5 : Int32) (0 : Int32) (2 : Int32) (2 : Int32) d i2 b365 b369 b870 b934 k365 k369 k870 k934 [(.double e0), (.double e1), (.double (4652024901027233792 : UInt64)), (.double (4652033697120256000 : UInt64)), (.double (4652042493213278208 : UInt64)), (.double (4652051289306300416 : UInt64))] [(.int (10 : Int32)), (.int (11 : Int32)), (.int (12 : Int32)), (.int (13 : Int32)), (.int (14 : Int32)), (.int (15 : Int32))] [(.double e0), (.double e1), (.double (4652024901027233792 : UInt64)), (.double (4652033697120256000 : UInt64)), (.double (4652042493213278208 : UInt64)), (.double (4652051289306300416 : UInt64))] [(.int (10 : Int32)), (.int (11 : Int32)), (.int (12 : Int32)), (.int (13 : Int32)), (.int (14 : Int32)), (.int (15 : Int32))] (4652051289306300416 : UInt64) (15 : Int32) T1061.heap n0 z1071 f1066 f1065 fu1061 fw1061 (by decide) rfl rfl (by decide) rfl rfl (own_self own_cst.2.2.2.2.2)) (own_hw hw 16 rfl) (own_hw hw 15 rfl) (by decide) e1080 (by rw [hml]; rfl) [(.int (5 : Int32)), (.int (0 : Int32)), (.int (2 : Int32)), (.int (2 : Int32)), (.int (0 : Int32)), (.double d), (.int i2), (.ref b365), (.ref b369), (.ref b870), (.ref b934)] 0 (by decide) (Nat.le_of_eq rfl) (by decide) (by decide) (lenOf own_pd3 rfl) rfl rfl 626 rfl (hb hby at_623) fun v1082 T1082 Lc1082 X1082 hQ1082 => ?_
              obtain ⟨rfl, Nq1082, e1082⟩ := hQ1082
              have N1083 := Fr.app N1081 Nq1082
              show own_Go _ _ _ _ _ (State.setTop _ (mkF _ 626 _ [(.int (1 : Int32))]))
              refine own_ifNo X1082 hx 629 rfl (hb hby at_626) (by decide) ?_
              refine own_iconst X1082 hx 630 rfl (hb hby at_629) (1 : Int32) rfl ?_
              refine own_goto X1082 hx 634 (hb hby at_630) (by decide) rfl ?_
              refine own_ret X1082 (some (.int (1 : Int32))) (fun h => by rw [Bd.returns] at h; cases h) Bd.notSynchronized (by decide) (by decide) ?_ (fun fs hr => retN X1082 hx (t := .boolean) Bd.returns (by simp) (hb hby at_634) hr)
              show Q_rm0 Z i0 i1 i2 h0 n0 _ T1082.heap _
              rw [e1082]
              exact ⟨rfl, N1083⟩
        by_cases hc1084 : (1 : Int32) < (own_k i0)
        ·
          refine own_icmpYes X856 hx 228 (hb hby at_221) (tlt hc1084).1 (by decide) rfl ?_
          refine own_iload X856 hx 230 rfl (hb hby at_228) rfl ?_
          refine own_i2d X856 hx 231 rfl (hb hby at_230) _ rfl ?_
          exact J231 _ (if_pos hc1084).symm
        ·
          refine own_icmpNo X856 hx 224 rfl (hb hby at_221) (flt hc1084).1 ?_
          refine own_dloadN X856 hx 225 rfl (hb hby at_224) rfl ?_
          refine own_goto X856 hx 231 (hb hby at_225) (by decide) rfl ?_
          exact J231 _ (if_neg hc1084).symm
      by_cases hc1085 : (0 : Int32) < (own_k i0)
      ·
        refine own_icmpYes X453 hx 202 (hb hby at_195) (tlt hc1085).1 (by decide) rfl ?_
        refine own_iload X453 hx 204 rfl (hb hby at_202) rfl ?_
        refine own_i2d X453 hx 205 rfl (hb hby at_204) _ rfl ?_
        exact J205 _ (if_pos hc1085).symm
      ·
        refine own_icmpNo X453 hx 198 rfl (hb hby at_195) (flt hc1085).1 ?_
        refine own_dloadN X453 hx 199 rfl (hb hby at_198) rfl ?_
        refine own_goto X453 hx 205 (hb hby at_199) (by decide) rfl ?_
        exact J205 _ (if_neg hc1085).symm
    ·
      show own_Go _ _ _ _ _ (State.setTop _ (mkF _ 181 #[.val (.int i0), .val (.int i1), .val (.int i2), .val (.double (9218868437227405312 : UInt64)), .second, .val (.int (2 : Int32)), .val (.int (1 : Int32)), .val (.int (own_k i0)), .val (.int f8), .val (.int (own_a0 i1)), .val (.int (own_a1 i1)), .val (.int (own_a2 i1)), .val (.double d), .second, .val (.ref b365), .val (.ref b369), .unset, .unset, .unset, .unset, .unset, .unset] []))
      refine own_iload X453 hx 183 rfl (hb hby at_181) rfl ?_
      refine own_iload X453 hx 185 rfl (hb hby at_183) rfl ?_
      refine own_imul X453 hx 186 rfl (hb hby at_185) (2 : Int32) rfl ?_
      refine own_istore X453 hx 188 rfl (hb hby at_186) #[.val (.int i0), .val (.int i1), .val (.int i2), .val (.double (9218868437227405312 : UInt64)), .second, .val (.int (2 : Int32)), .val (.int (1 : Int32)), .val (.int (own_k i0)), .val (.int f8), .val (.int (own_a0 i1)), .val (.int (own_a1 i1)), .val (.int (own_a2 i1)), .val (.double d), .second, .val (.ref b365), .val (.ref b369), .val (.int (2 : Int32)), .unset, .unset, .unset, .unset, .unset] rfl ?_
      refine own_aload X453 hx 190 rfl (hb hby at_188) rfl rfl ?_
      refine own_iload X453 hx 192 rfl (hb hby at_190) rfl ?_
      refine own_iconst X453 hx 193 rfl (hb hby at_192) (0 : Int32) rfl ?_
      refine own_iload X453 hx 195 rfl (hb hby at_193) rfl ?_
      have J205 : ∀ (e0 : UInt64), (e0 = (own_v (0 : Int32) (own_k i0) (own_a0 i1))) → own_Go p e below (fun o u L => FrameEnd s o u L room_1.cells room_1.slots) (Q_rm0 Z i0 i1 i2 h0 n0) (T453.setTop (mkF m 205 #[.val (.int i0), .val (.int i1), .val (.int i2), .val (.double (9218868437227405312 : UInt64)), .second, .val (.int (2 : Int32)), .val (.int (1 : Int32)), .val (.int (own_k i0)), .val (.int f8), .val (.int (own_a0 i1)), .val (.int (own_a1 i1)), .val (.int (own_a2 i1)), .val (.double d), .second, .val (.ref b365), .val (.ref b369), .val (.int (2 : Int32)), .unset, .unset, .unset, .unset, .unset] [(.double e0), (.int (2 : Int32)), (.ref b365)])) := by
        intro e0 he0
        have nn0 : FP.Core.val64 e0 ≠ .nan := by rw [he0]; exact own_v_nan _ _ _
        show own_Go _ _ _ _ _ (State.setTop _ (mkF _ 205 _ [(.double e0), (.int (2 : Int32)), (.ref b365)]))
        refine own_stD X453 hx hZ e453 f457 ⟨by decide, by decide⟩ 2 rfl (Nat.le_of_ble_eq_true rfl) [(.double (4652007308841189376 : UInt64)), (.double (4652016104934211584 : UInt64)), (.double e0), (.double (4652033697120256000 : UInt64)), (.double (4652042493213278208 : UInt64)), (.double (4652051289306300416 : UInt64))] rfl 206 rfl (hb hby at_205) fun T1086 h1086 X1086 e1086 W1086 f1087 => ?_
        have f1088 := f455.wr W1086
        have f1089 := f456.wr W1086
        have f1090 := f454.other W1086 (Ne.symm ne370)
        have z1091 := Nat.le_trans z458 (Keep.of_wr W1086).1
        have N1092 := Fr.snoc X1086 N459 ge366
        refine own_iload X1086 hx 208 rfl (hb hby at_206) rfl ?_
        refine own_iconst X1086 hx 209 rfl (hb hby at_208) (2 : Int32) rfl ?_
        refine own_icmpNo X1086 hx 212 rfl (hb hby at_209) (by decide) ?_
        refine own_aload X1086 hx 214 rfl (hb hby at_212) rfl rfl ?_
        refine own_iload X1086 hx 216 rfl (hb hby at_214) rfl ?_
        refine own_iconst X1086 hx 217 rfl (hb hby at_216) (1 : Int32) rfl ?_
        refine own_iadd X1086 hx 218 rfl (hb hby at_217) (3 : Int32) rfl ?_
        refine own_iconst X1086 hx 219 rfl (hb hby at_218) (1 : Int32) rfl ?_
        refine own_iload X1086 hx 221 rfl (hb hby at_219) rfl ?_
        have J231 : ∀ (e1 : UInt64), (e1 = (own_v (1 : Int32) (own_k i0) (own_a1 i1))) → own_Go p e below (fun o u L => FrameEnd s o u L room_1.cells room_1.slots) (Q_rm0 Z i0 i1 i2 h0 n0) (T1086.setTop (mkF m 231 #[.val (.int i0), .val (.int i1), .val (.int i2), .val (.double (9218868437227405312 : UInt64)), .second, .val (.int (2 : Int32)), .val (.int (1 : Int32)), .val (.int (own_k i0)), .val (.int f8), .val (.int (own_a0 i1)), .val (.int (own_a1 i1)), .val (.int (own_a2 i1)), .val (.double d), .second, .val (.ref b365), .val (.ref b369), .val (.int (2 : Int32)), .unset, .unset, .unset, .unset, .unset] [(.double e1), (.int (3 : Int32)), (.ref b365)])) := by
          intro e1 he1
          have nn1 : FP.Core.val64 e1 ≠ .nan := by rw [he1]; exact own_v_nan _ _ _
          have la1 : own_z e0 ≤ own_z e1 := by rw [he0, he1]; exact own_v_le (by decide) (own_a_rng i1).2.1
          show own_Go _ _ _ _ _ (State.setTop _ (mkF _ 231 _ [(.double e1), (.int (3 : Int32)), (.ref b365)]))
          refine own_stD X1086 hx hZ e1086 f1087 ⟨by decide, by decide⟩ 3 rfl (Nat.le_of_ble_eq_true rfl) [(.double (4652007308841189376 : UInt64)), (.double (4652016104934211584 : UInt64)), (.double e0), (.double e1), (.double (4652042493213278208 : UInt64)), (.double (4652051289306300416 : UInt64))] rfl 232 rfl (hb hby at_231) fun T1093 h1093 X1093 e1093 W1093 f1094 => ?_
          have f1095 := f1088.wr W1093
          have f1096 := f1089.wr W1093
          have f1097 := f1090.other W1093 (Ne.symm ne370)
          have z1098 := Nat.le_trans z1091 (Keep.of_wr W1093).1
          have N1099 := Fr.snoc X1093 N1092 ge366
          refine own_iload X1093 hx 234 rfl (hb hby at_232) rfl ?_
          refine own_iconst X1093 hx 235 rfl (hb hby at_234) (3 : Int32) rfl ?_
          refine own_icmpYes X1093 hx 258 (hb hby at_235) (by decide) (by decide) rfl ?_
          refine own_bipush X1093 hx 260 rfl (hb hby at_258) (6 : Int32) rfl ?_
          refine own_newA X1093 hx hZ (own_hw hw 1 rfl) e1093 262 rfl (hb hby at_260) (by decide) 6 (by decide) (by decide) (by decide) (by decide) "[D" (by decide) fun T1100 h1100 k1100 b1100 g1100 X1100 e1100 E1100 A1100 C1100 => ?_
          have ne1101 : b365 ≠ b1100 := Nat.ne_of_lt (Nat.lt_of_lt_of_le f1095.lt (Nat.le_of_eq g1100.symm))
          have ne1102 : b369 ≠ b1100 := Nat.ne_of_lt (Nat.lt_of_lt_of_le f1096.lt (Nat.le_of_eq g1100.symm))
          have ge1103 : n0 ≤ b1100 := Nat.le_trans z1098 (Nat.le_of_eq g1100.symm)
          have f1104 := f1095.ext E1100
          have f1105 := f1096.ext E1100
          have f1106 := f1097.ext E1100
          have f1107 := f1094.ext E1100
          have z1108 := Nat.le_trans z1098 E1100.1
          have f1109 : Arv Z h1100 b1100 k1100 .double (6 : Int32) [(.double (0 : UInt64)), (.double (0 : UInt64)), (.double (0 : UInt64)), (.double (0 : UInt64)), (.double (0 : UInt64)), (.double (0 : UInt64))] (.double (0 : UInt64)) := (Arv.new A1100 (by decide)).pad (pad_rep [] (.double (0 : UInt64)) 6)
          refine own_astore X1100 hx 264 rfl (hb hby at_262) rfl #[.val (.int i0), .val (.int i1), .val (.int i2), .val (.double (9218868437227405312 : UInt64)), .second, .val (.int (2 : Int32)), .val (.int (1 : Int32)), .val (.int (own_k i0)), .val (.int f8), .val (.int (own_a0 i1)), .val (.int (own_a1 i1)), .val (.int (own_a2 i1)), .val (.double d), .second, .val (.ref b365), .val (.ref b369), .val (.int (2 : Int32)), .val (.ref b1100), .unset, .unset, .unset, .unset] rfl ?_
          refine own_aload X1100 hx 266 rfl (hb hby at_264) rfl rfl ?_
          refine own_iconst X1100 hx 267 rfl (hb hby at_266) (0 : Int32) rfl ?_
          refine own_aload X1100 hx 269 rfl (hb hby at_267) rfl rfl ?_
          refine own_iconst X1100 hx 270 rfl (hb hby at_269) (0 : Int32) rfl ?_
          refine own_ldD X1100 hx hZ e1100 f1107 ⟨by decide, by decide⟩ (4652007308841189376 : UInt64) rfl 271 rfl (hb hby at_270) ?_
          refine own_stD X1100 hx hZ e1100 f1109 ⟨by decide, by decide⟩ 0 rfl (Nat.le_of_ble_eq_true rfl) [(.double (4652007308841189376 : UInt64)), (.double (0 : UInt64)), (.double (0 : UInt64)), (.double (0 : UInt64)), (.double (0 : UInt64)), (.double (0 : UInt64))] rfl 272 rfl (hb hby at_271) fun T1110 h1110 X1110 e1110 W1110 f1111 => ?_
          have f1112 := f1104.wr W1110
          have f1113 := f1105.wr W1110
          have f1114 := f1106.other W1110 ne1102
          have f1115 := f1107.other W1110 ne1101
          have f1116 := C1100.wr W1110
          have z1117 := Nat.le_trans z1108 (Keep.of_wr W1110).1
          have N1118 := Fr.snoc X1110 N1099 ge1103
          refine own_aload X1110 hx 274 rfl (hb hby at_272) rfl rfl ?_
          refine own_iconst X1110 hx 275 rfl (hb hby at_274) (1 : Int32) rfl ?_
          refine own_aload X1110 hx 277 rfl (hb hby at_275) rfl rfl ?_
          refine own_iconst X1110 hx 278 rfl (hb hby at_277) (1 : Int32) rfl ?_
          refine own_ldD X1110 hx hZ e1110 f1115 ⟨by decide, by decide⟩ (4652016104934211584 : UInt64) rfl 279 rfl (hb hby at_278) ?_
          refine own_stD X1110 hx hZ e1110 f1111 ⟨by decide, by decide⟩ 1 rfl (Nat.le_of_ble_eq_true rfl) [(.double (4652007308841189376 : UInt64)), (.double (4652016104934211584 : UInt64)), (.double (0 : UInt64)), (.double (0 : UInt64)), (.double (0 : UInt64)), (.double (0 : UInt64))] rfl 280 rfl (hb hby at_279) fun T1119 h1119 X1119 e1119 W1119 f1120 => ?_
          have f1121 := f1112.wr W1119
          have f1122 := f1113.wr W1119
          have f1123 := f1114.other W1119 ne1102
          have f1124 := f1115.other W1119 ne1101
          have f1125 := f1116.wr W1119
          have z1126 := Nat.le_trans z1117 (Keep.of_wr W1119).1
          have N1127 := Fr.snoc X1119 N1118 ge1103
          refine own_aload X1119 hx 282 rfl (hb hby at_280) rfl rfl ?_
          refine own_iconst X1119 hx 283 rfl (hb hby at_282) (2 : Int32) rfl ?_
          refine own_aload X1119 hx 285 rfl (hb hby at_283) rfl rfl ?_
          refine own_iconst X1119 hx 286 rfl (hb hby at_285) (2 : Int32) rfl ?_
          refine own_ldD X1119 hx hZ e1119 f1124 ⟨by decide, by decide⟩ e0 rfl 287 rfl (hb hby at_286) ?_
          refine own_stD X1119 hx hZ e1119 f1120 ⟨by decide, by decide⟩ 2 rfl (Nat.le_of_ble_eq_true rfl) [(.double (4652007308841189376 : UInt64)), (.double (4652016104934211584 : UInt64)), (.double e0), (.double (0 : UInt64)), (.double (0 : UInt64)), (.double (0 : UInt64))] rfl 288 rfl (hb hby at_287) fun T1128 h1128 X1128 e1128 W1128 f1129 => ?_
          have f1130 := f1121.wr W1128
          have f1131 := f1122.wr W1128
          have f1132 := f1123.other W1128 ne1102
          have f1133 := f1124.other W1128 ne1101
          have f1134 := f1125.wr W1128
          have z1135 := Nat.le_trans z1126 (Keep.of_wr W1128).1
          have N1136 := Fr.snoc X1128 N1127 ge1103
          refine own_aload X1128 hx 290 rfl (hb hby at_288) rfl rfl ?_
          refine own_iconst X1128 hx 291 rfl (hb hby at_290) (3 : Int32) rfl ?_
          refine own_aload X1128 hx 293 rfl (hb hby at_291) rfl rfl ?_
          refine own_iconst X1128 hx 294 rfl (hb hby at_293) (3 : Int32) rfl ?_
          refine own_ldD X1128 hx hZ e1128 f1133 ⟨by decide, by decide⟩ e1 rfl 295 rfl (hb hby at_294) ?_
          refine own_stD X1128 hx hZ e1128 f1129 ⟨by decide, by decide⟩ 3 rfl (Nat.le_of_ble_eq_true rfl) [(.double (4652007308841189376 : UInt64)), (.double (4652016104934211584 : UInt64)), (.double e0), (.double e1), (.double (0 : UInt64)), (.double (0 : UInt64))] rfl 296 rfl (hb hby at_295) fun T1137 h1137 X1137 e1137 W1137 f1138 => ?_
          have f1139 := f1130.wr W1137
          have f1140 := f1131.wr W1137
          have f1141 := f1132.other W1137 ne1102
          have f1142 := f1133.other W1137 ne1101
          have f1143 := f1134.wr W1137
          have z1144 := Nat.le_trans z1135 (Keep.of_wr W1137).1
          have N1145 := Fr.snoc X1137 N1136 ge1103
          refine own_aload X1137 hx 298 rfl (hb hby at_296) rfl rfl ?_
          refine own_iconst X1137 hx 299 rfl (hb hby at_298) (4 : Int32) rfl ?_
          refine own_aload X1137 hx 301 rfl (hb hby at_299) rfl rfl ?_
          refine own_iconst X1137 hx 302 rfl (hb hby at_301) (4 : Int32) rfl ?_
          refine own_ldD X1137 hx hZ e1137 f1142 ⟨by decide, by decide⟩ (4652042493213278208 : UInt64) rfl 303 rfl (hb hby at_302) ?_
          refine own_stD X1137 hx hZ e1137 f1138 ⟨by decide, by decide⟩ 4 rfl (Nat.le_of_ble_eq_true rfl) [(.double (4652007308841189376 : UInt64)), (.double (4652016104934211584 : UInt64)), (.double e0), (.double e1), (.double (4652042493213278208 : UInt64)), (.double (0 : UInt64))] rfl 304 rfl (hb hby at_303) fun T1146 h1146 X1146 e1146 W1146 f1147 => ?_
          have f1148 := f1139.wr W1146
          have f1149 := f1140.wr W1146
          have f1150 := f1141.other W1146 ne1102
          have f1151 := f1142.other W1146 ne1101
          have f1152 := f1143.wr W1146
          have z1153 := Nat.le_trans z1144 (Keep.of_wr W1146).1
          have N1154 := Fr.snoc X1146 N1145 ge1103
          refine own_aload X1146 hx 306 rfl (hb hby at_304) rfl rfl ?_
          refine own_iconst X1146 hx 307 rfl (hb hby at_306) (5 : Int32) rfl ?_
          refine own_aload X1146 hx 309 rfl (hb hby at_307) rfl rfl ?_
          refine own_iconst X1146 hx 310 rfl (hb hby at_309) (5 : Int32) rfl ?_
          refine own_ldD X1146 hx hZ e1146 f1151 ⟨by decide, by decide⟩ (4652051289306300416 : UInt64) rfl 311 rfl (hb hby at_310) ?_
          refine own_stD X1146 hx hZ e1146 f1147 ⟨by decide, by decide⟩ 5 rfl (Nat.le_of_ble_eq_true rfl) [(.double (4652007308841189376 : UInt64)), (.double (4652016104934211584 : UInt64)), (.double e0), (.double e1), (.double (4652042493213278208 : UInt64)), (.double (4652051289306300416 : UInt64))] rfl 312 rfl (hb hby at_311) fun T1155 h1155 X1155 e1155 W1155 f1156 => ?_
          have f1157 := f1148.wr W1155
          have f1158 := f1149.wr W1155
          have f1159 := f1150.other W1155 ne1102
          have f1160 := f1151.other W1155 ne1101
          have f1161 := f1152.wr W1155
          have z1162 := Nat.le_trans z1153 (Keep.of_wr W1155).1
          have N1163 := Fr.snoc X1155 N1154 ge1103
          refine own_bipush X1155 hx 314 rfl (hb hby at_312) (6 : Int32) rfl ?_
          refine own_newA X1155 hx hZ (own_hw hw 2 rfl) e1155 316 rfl (hb hby at_314) (by decide) 6 (by decide) (by decide) (by decide) (by decide) "[I" (by decide) fun T1164 h1164 k1164 b1164 g1164 X1164 e1164 E1164 A1164 C1164 => ?_
          have ne1165 : b365 ≠ b1164 := Nat.ne_of_lt (Nat.lt_of_lt_of_le f1157.lt (Nat.le_of_eq g1164.symm))
          have ne1166 : b369 ≠ b1164 := Nat.ne_of_lt (Nat.lt_of_lt_of_le f1158.lt (Nat.le_of_eq g1164.symm))
          have ne1167 : b1100 ≠ b1164 := Nat.ne_of_lt (Nat.lt_of_lt_of_le f1161.lt (Nat.le_of_eq g1164.symm))
          have ge1168 : n0 ≤ b1164 := Nat.le_trans z1162 (Nat.le_of_eq g1164.symm)
          have f1169 := f1157.ext E1164
          have f1170 := f1158.ext E1164
          have f1171 := f1159.ext E1164
          have f1172 := f1160.ext E1164
          have f1173 := f1161.ext E1164
          have f1174 := f1156.ext E1164
          have z1175 := Nat.le_trans z1162 E1164.1
          have f1176 : Arv Z h1164 b1164 k1164 .int (6 : Int32) [(.int (0 : Int32)), (.int (0 : Int32)), (.int (0 : Int32)), (.int (0 : Int32)), (.int (0 : Int32)), (.int (0 : Int32))] (.int (0 : Int32)) := (Arv.new A1164 (by decide)).pad (pad_rep [] (.int (0 : Int32)) 6)
          refine own_astore X1164 hx 318 rfl (hb hby at_316) rfl #[.val (.int i0), .val (.int i1), .val (.int i2), .val (.double (9218868437227405312 : UInt64)), .second, .val (.int (2 : Int32)), .val (.int (1 : Int32)), .val (.int (own_k i0)), .val (.int f8), .val (.int (own_a0 i1)), .val (.int (own_a1 i1)), .val (.int (own_a2 i1)), .val (.double d), .second, .val (.ref b365), .val (.ref b369), .val (.int (2 : Int32)), .val (.ref b1100), .val (.ref b1164), .unset, .unset, .unset] rfl ?_
          refine own_aload X1164 hx 320 rfl (hb hby at_318) rfl rfl ?_
          refine own_iconst X1164 hx 321 rfl (hb hby at_320) (0 : Int32) rfl ?_
          refine own_aload X1164 hx 323 rfl (hb hby at_321) rfl rfl ?_
          refine own_iconst X1164 hx 324 rfl (hb hby at_323) (0 : Int32) rfl ?_
          refine own_ldI X1164 hx hZ e1164 f1171 ⟨by decide, by decide⟩ (10 : Int32) rfl 325 rfl (hb hby at_324) ?_
          refine own_stI X1164 hx hZ e1164 f1176 ⟨by decide, by decide⟩ 0 rfl (Nat.le_of_ble_eq_true rfl) [(.int (10 : Int32)), (.int (0 : Int32)), (.int (0 : Int32)), (.int (0 : Int32)), (.int (0 : Int32)), (.int (0 : Int32))] rfl 326 rfl (hb hby at_325) fun T1177 h1177 X1177 e1177 W1177 f1178 => ?_
          have f1179 := f1169.wr W1177
          have f1180 := f1170.wr W1177
          have f1181 := f1171.other W1177 ne1166
          have f1182 := f1172.other W1177 ne1165
          have f1183 := f1173.wr W1177
          have f1184 := f1174.other W1177 ne1167
          have f1185 := C1164.wr W1177
          have z1186 := Nat.le_trans z1175 (Keep.of_wr W1177).1
          have N1187 := Fr.snoc X1177 N1163 ge1168
          refine own_aload X1177 hx 328 rfl (hb hby at_326) rfl rfl ?_
          refine own_iconst X1177 hx 329 rfl (hb hby at_328) (1 : Int32) rfl ?_
          refine own_aload X1177 hx 331 rfl (hb hby at_329) rfl rfl ?_
          refine own_iconst X1177 hx 332 rfl (hb hby at_331) (1 : Int32) rfl ?_
          refine own_ldI X1177 hx hZ e1177 f1181 ⟨by decide, by decide⟩ (11 : Int32) rfl 333 rfl (hb hby at_332) ?_
          refine own_stI X1177 hx hZ e1177 f1178 ⟨by decide, by decide⟩ 1 rfl (Nat.le_of_ble_eq_true rfl) [(.int (10 : Int32)), (.int (11 : Int32)), (.int (0 : Int32)), (.int (0 : Int32)), (.int (0 : Int32)), (.int (0 : Int32))] rfl 334 rfl (hb hby at_333) fun T1188 h1188 X1188 e1188 W1188 f1189 => ?_
          have f1190 := f1179.wr W1188
          have f1191 := f1180.wr W1188
          have f1192 := f1181.other W1188 ne1166
          have f1193 := f1182.other W1188 ne1165
          have f1194 := f1183.wr W1188
          have f1195 := f1184.other W1188 ne1167
          have f1196 := f1185.wr W1188
          have z1197 := Nat.le_trans z1186 (Keep.of_wr W1188).1
          have N1198 := Fr.snoc X1188 N1187 ge1168
          refine own_aload X1188 hx 336 rfl (hb hby at_334) rfl rfl ?_
          refine own_iconst X1188 hx 337 rfl (hb hby at_336) (2 : Int32) rfl ?_
          refine own_aload X1188 hx 339 rfl (hb hby at_337) rfl rfl ?_
          refine own_iconst X1188 hx 340 rfl (hb hby at_339) (2 : Int32) rfl ?_
          refine own_ldI X1188 hx hZ e1188 f1192 ⟨by decide, by decide⟩ (12 : Int32) rfl 341 rfl (hb hby at_340) ?_
          refine own_stI X1188 hx hZ e1188 f1189 ⟨by decide, by decide⟩ 2 rfl (Nat.le_of_ble_eq_true rfl) [(.int (10 : Int32)), (.int (11 : Int32)), (.int (12 : Int32)), (.int (0 : Int32)), (.int (0 : Int32)), (.int (0 : Int32))] rfl 342 rfl (hb hby at_341) fun T1199 h1199 X1199 e1199 W1199 f1200 => ?_
          have f1201 := f1190.wr W1199
          have f1202 := f1191.wr W1199
          have f1203 := f1192.other W1199 ne1166
          have f1204 := f1193.other W1199 ne1165
          have f1205 := f1194.wr W1199
          have f1206 := f1195.other W1199 ne1167
          have f1207 := f1196.wr W1199
          have z1208 := Nat.le_trans z1197 (Keep.of_wr W1199).1
          have N1209 := Fr.snoc X1199 N1198 ge1168
          refine own_aload X1199 hx 344 rfl (hb hby at_342) rfl rfl ?_
          refine own_iconst X1199 hx 345 rfl (hb hby at_344) (3 : Int32) rfl ?_
          refine own_aload X1199 hx 347 rfl (hb hby at_345) rfl rfl ?_
          refine own_iconst X1199 hx 348 rfl (hb hby at_347) (3 : Int32) rfl ?_
          refine own_ldI X1199 hx hZ e1199 f1203 ⟨by decide, by decide⟩ (13 : Int32) rfl 349 rfl (hb hby at_348) ?_
          refine own_stI X1199 hx hZ e1199 f1200 ⟨by decide, by decide⟩ 3 rfl (Nat.le_of_ble_eq_true rfl) [(.int (10 : Int32)), (.int (11 : Int32)), (.int (12 : Int32)), (.int (13 : Int32)), (.int (0 : Int32)), (.int (0 : Int32))] rfl 350 rfl (hb hby at_349) fun T1210 h1210 X1210 e1210 W1210 f1211 => ?_
          have f1212 := f1201.wr W1210
          have f1213 := f1202.wr W1210
          have f1214 := f1203.other W1210 ne1166
          have f1215 := f1204.other W1210 ne1165
          have f1216 := f1205.wr W1210
          have f1217 := f1206.other W1210 ne1167
          have f1218 := f1207.wr W1210
          have z1219 := Nat.le_trans z1208 (Keep.of_wr W1210).1
          have N1220 := Fr.snoc X1210 N1209 ge1168
          refine own_aload X1210 hx 352 rfl (hb hby at_350) rfl rfl ?_
          refine own_iconst X1210 hx 353 rfl (hb hby at_352) (4 : Int32) rfl ?_
          refine own_aload X1210 hx 355 rfl (hb hby at_353) rfl rfl ?_
          refine own_iconst X1210 hx 356 rfl (hb hby at_355) (4 : Int32) rfl ?_
          refine own_ldI X1210 hx hZ e1210 f1214 ⟨by decide, by decide⟩ (14 : Int32) rfl 357 rfl (hb hby at_356) ?_
          refine own_stI X1210 hx hZ e1210 f1211 ⟨by decide, by decide⟩ 4 rfl (Nat.le_of_ble_eq_true rfl) [(.int (10 : Int32)), (.int (11 : Int32)), (.int (12 : Int32)), (.int (13 : Int32)), (.int (14 : Int32)), (.int (0 : Int32))] rfl 358 rfl (hb hby at_357) fun T1221 h1221 X1221 e1221 W1221 f1222 => ?_
          have f1223 := f1212.wr W1221
          have f1224 := f1213.wr W1221
          have f1225 := f1214.other W1221 ne1166
          have f1226 := f1215.other W1221 ne1165
          have f1227 := f1216.wr W1221
          have f1228 := f1217.other W1221 ne1167
          have f1229 := f1218.wr W1221
          have z1230 := Nat.le_trans z1219 (Keep.of_wr W1221).1
          have N1231 := Fr.snoc X1221 N1220 ge1168
          refine own_aload X1221 hx 360 rfl (hb hby at_358) rfl rfl ?_
          refine own_iconst X1221 hx 361 rfl (hb hby at_360) (5 : Int32) rfl ?_
          refine own_aload X1221 hx 363 rfl (hb hby at_361) rfl rfl ?_
          refine own_iconst X1221 hx 364 rfl (hb hby at_363) (5 : Int32) rfl ?_
          refine own_ldI X1221 hx hZ e1221 f1225 ⟨by decide, by decide⟩ (15 : Int32) rfl 365 rfl (hb hby at_364) ?_
          refine own_stI X1221 hx hZ e1221 f1222 ⟨by decide, by decide⟩ 5 rfl (Nat.le_of_ble_eq_true rfl) [(.int (10 : Int32)), (.int (11 : Int32)), (.int (12 : Int32)), (.int (13 : Int32)), (.int (14 : Int32)), (.int (15 : Int32))] rfl 366 rfl (hb hby at_365) fun T1232 h1232 X1232 e1232 W1232 f1233 => ?_
          have f1234 := f1223.wr W1232
          have f1235 := f1224.wr W1232
          have f1236 := f1225.other W1232 ne1166
          have f1237 := f1226.other W1232 ne1165
          have f1238 := f1227.wr W1232
          have f1239 := f1228.other W1232 ne1167
          have f1240 := f1229.wr W1232
          have z1241 := Nat.le_trans z1230 (Keep.of_wr W1232).1
          have N1242 := Fr.snoc X1232 N1231 ge1168
          refine own_dload X1232 hx 368 rfl (hb hby at_366) rfl ?_
          refine own_aload X1232 hx 370 rfl (hb hby at_368) rfl rfl ?_
          refine own_iload X1232 hx 372 rfl (hb hby at_370) rfl ?_
          refine own_iload X1232 hx 374 rfl (hb hby at_372) rfl ?_
          refine own_iadd X1232 hx 375 rfl (hb hby at_374) (4 : Int32) rfl ?_
          refine own_iconst X1232 hx 376 rfl (hb hby at_375) (1 : Int32) rfl ?_
          refine own_isub X1232 hx 377 rfl (hb hby at_376) (3 : Int32) rfl ?_
          refine own_ldD X1232 hx hZ e1232 f1237 ⟨by decide, by decide⟩ e1 rfl 378 rfl (hb hby at_377) ?_
          by_cases hc1243 : own_z d < own_z e0
          ·
            refine own_dcmp X1232 hx 379 rfl (hb hby at_378) _ rfl ?_
            refine own_ifNo X1232 hx 382 rfl (hb hby at_379) ((if0 _ _).trans (tlt (own_cg hd nn1 (Int.lt_of_lt_of_le hc1243 la1) .g)).2.1) ?_
            refine own_iconst X1232 hx 383 rfl (hb hby at_382) (1 : Int32) rfl ?_
            refine own_goto X1232 hx 387 (hb hby at_383) (by decide) rfl ?_
            refine own_istore X1232 hx 389 rfl (hb hby at_387) #[.val (.int i0), .val (.int i1), .val (.int i2), .val (.double (9218868437227405312 : UInt64)), .second, .val (.int (2 : Int32)), .val (.int (1 : Int32)), .val (.int (own_k i0)), .val (.int f8), .val (.int (own_a0 i1)), .val (.int (own_a1 i1)), .val (.int (own_a2 i1)), .val (.double d), .second, .val (.ref b365), .val (.ref b369), .val (.int (2 : Int32)), .val (.ref b1100), .val (.ref b1164), .val (.int (1 : Int32)), .unset, .unset] rfl ?_
            refine own_iconst X1232 hx 390 rfl (hb hby at_389) (0 : Int32) rfl ?_
            refine own_istore X1232 hx 392 rfl (hb hby at_390) #[.val (.int i0), .val (.int i1), .val (.int i2), .val (.double (9218868437227405312 : UInt64)), .second, .val (.int (2 : Int32)), .val (.int (1 : Int32)), .val (.int (own_k i0)), .val (.int f8), .val (.int (own_a0 i1)), .val (.int (own_a1 i1)), .val (.int (own_a2 i1)), .val (.double d), .second, .val (.ref b365), .val (.ref b369), .val (.int (2 : Int32)), .val (.ref b1100), .val (.ref b1164), .val (.int (1 : Int32)), .val (.int (0 : Int32)), .unset] rfl ?_
            refine own_aload X1232 hx 394 rfl (hb hby at_392) rfl rfl ?_
            refine own_iload X1232 hx 396 rfl (hb hby at_394) rfl ?_
            refine own_ldD X1232 hx hZ e1232 f1237 ⟨by decide, by decide⟩ e0 rfl 397 rfl (hb hby at_396) ?_
            refine own_dload X1232 hx 399 rfl (hb hby at_397) rfl ?_
            refine own_dcmp X1232 hx 400 rfl (hb hby at_399) _ rfl ?_
            refine own_ifYes X1232 hx 406 (hb hby at_400) ((if0 _ _).trans (tlt (own_cp nn0 hd hc1243 .g)).2.2.1) (by decide) rfl ?_
            refine own_iload X1232 hx 408 rfl (hb hby at_406) rfl ?_
            refine own_iconst X1232 hx 409 rfl (hb hby at_408) (2 : Int32) rfl ?_
            refine own_icmpNo X1232 hx 412 rfl (hb hby at_409) (by decide) ?_
            refine own_aload X1232 hx 414 rfl (hb hby at_412) rfl rfl ?_
            refine own_iload X1232 hx 416 rfl (hb hby at_414) rfl ?_
            refine own_iconst X1232 hx 417 rfl (hb hby at_416) (1 : Int32) rfl ?_
            refine own_iadd X1232 hx 418 rfl (hb hby at_417) (3 : Int32) rfl ?_
            refine own_ldD X1232 hx hZ e1232 f1237 ⟨by decide, by decide⟩ e1 rfl 419 rfl (hb hby at_418) ?_
            refine own_dload X1232 hx 421 rfl (hb hby at_419) rfl ?_
            refine own_dcmp X1232 hx 422 rfl (hb hby at_421) _ rfl ?_
            refine own_ifYes X1232 hx 428 (hb hby at_422) ((if0 _ _).trans (tlt (own_cp nn1 hd (Int.lt_of_lt_of_le hc1243 la1) .g)).2.2.1) (by decide) rfl ?_
            refine own_iload X1232 hx 430 rfl (hb hby at_428) rfl ?_
            refine own_iconst X1232 hx 431 rfl (hb hby at_430) (3 : Int32) rfl ?_
            refine own_icmpYes X1232 hx 450 (hb hby at_431) (by decide) (by decide) rfl ?_
            refine own_iloadN X1232 hx 451 rfl (hb hby at_450) rfl ?_
            refine own_dload X1232 hx 453 rfl (hb hby at_451) rfl ?_
            refine own_iload X1232 hx 455 rfl (hb hby at_453) rfl ?_
            refine own_iload X1232 hx 457 rfl (hb hby at_455) rfl ?_
            refine own_aload X1232 hx 459 rfl (hb hby at_457) rfl rfl ?_
            refine own_aload X1232 hx 461 rfl (hb hby at_459) rfl rfl ?_
            refine own_callS X1232 hx hZ (y := (⟨"com/example/outpost/outpost/model/Distances", "keepNearer", "(IDII[D[I)Z"⟩ : MethodName)) hown (own_hw hw 9 rfl) (own_hw hw 10 rfl) (by decide) (rm_keep_2_1_0 l Z a0 hw [] i2 d b1100 b1164 k1100 k1164 (4652007308841189376 : UInt64) (4652016104934211584 : UInt64) e0 e1 (4652042493213278208 : UInt64) (4652051289306300416 : UInt64) (10 : Int32) (11 : Int32) (12 : Int32) (13 : Int32) (14 : Int32) (15 : Int32) h1232 n0 z1241 f1239 f1233 ne1167 ge1103 ge1168 (own_cg hd nn1 (Int.lt_of_lt_of_le hc1243 la1) .g) (own_cp nn0 hd hc1243 .l)) (own_hw hw 12 rfl) (own_hw hw 11 rfl) (by decide) e1232 (by rw [hml]; rfl) [(.int i2), (.double d), (.int (1 : Int32)), (.int (2 : Int32)), (.ref b1100), (.ref b1164)] 0 (by decide) (Nat.le_of_eq rfl) (by decide) (by decide) (lenOf own_pd2 rfl) rfl rfl 464 rfl (hb hby at_461) fun v1244 T1244 Lc1244 X1244 hQ1244 => ?_
            obtain ⟨rfl, Nq1244, Kq1244, fu1244, fw1244⟩ := hQ1244
            have N1245 := Fr.app N1242 Nq1244
            have f1246 := f1234.keep Kq1244
            have f1247 := f1235.keep Kq1244
            have f1248 := f1236.keep Kq1244 (ninS ne1102 (ninS ne1166 nin0))
            have f1249 := f1237.keep Kq1244 (ninS ne1101 (ninS ne1165 nin0))
            have f1250 := f1238.keep Kq1244
            have f1252 := f1240.keep Kq1244
            have z1254 := Nat.le_trans z1241 Kq1244.1
            show own_Go _ _ _ _ _ (State.setTop _ (mkF _ 464 _ [(.int (1 : Int32))]))
            refine own_istore X1244 hx 466 rfl (hb hby at_464) #[.val (.int i0), .val (.int i1), .val (.int i2), .val (.double (9218868437227405312 : UInt64)), .second, .val (.int (2 : Int32)), .val (.int (1 : Int32)), .val (.int (own_k i0)), .val (.int f8), .val (.int (own_a0 i1)), .val (.int (own_a1 i1)), .val (.int (own_a2 i1)), .val (.double d), .second, .val (.ref b365), .val (.ref b369), .val (.int (2 : Int32)), .val (.ref b1100), .val (.ref b1164), .val (.int (1 : Int32)), .val (.int (0 : Int32)), .val (.int (1 : Int32))] rfl ?_
            refine own_iload X1244 hx 468 rfl (hb hby at_466) rfl ?_
            refine own_iload X1244 hx 470 rfl (hb hby at_468) rfl ?_
            refine own_icmpNo X1244 hx 473 rfl (hb hby at_470) (by decide) ?_
            refine own_iconst X1244 hx 474 rfl (hb hby at_473) (0 : Int32) rfl ?_
            refine own_iload X1244 hx 476 rfl (hb hby at_474) rfl ?_
            refine own_iload X1244 hx 478 rfl (hb hby at_476) rfl ?_
            refine own_iload X1244 hx 480 rfl (hb hby at_478) rfl ?_
            refine own_iload X1244 hx 482 rfl (hb hby at_480) rfl ?_
            refine own_dload X1244 hx 484 rfl (hb hby at_482) rfl ?_
            refine own_iloadN X1244 hx 485 rfl (hb hby at_484) rfl ?_
            refine own_aload X1244 hx 487 rfl (hb hby at_485) rfl rfl ?_
            refine own_aload X1244 hx 489 rfl (hb hby at_487) rfl rfl ?_
            refine own_aload X1244 hx 491 rfl (hb hby at_489) rfl rfl ?_
            refine own_aload X1244 hx 493 rfl (hb hby at_491) rfl rfl ?_
            refine own_callS X1244 hx hZ (y := (⟨"com/example/outpost/outpost/model/DistancesKeepNearerPinLaw", "same", "(IIIIZDI[D[I[D[I)Z"⟩ : MethodName)) hown (own_hw hw 13 rfl) (own_hw hw 14 rfl) (by decide) (rm_same_A2 l Z a0 hw [] (0 : Int32) (2 : Int32) (2 : Int32) (0 : Int32) d i2 b365 b369 b1100 b1164 k365 k369 k1100 k1164 [(.double (4652007308841189376 : UInt64)), (.double (4652016104934211584 : UInt64)), (.double e0), (.double e1), (.double (4652042493213278208 : UInt64)), (.double (4652051289306300416 : UInt64))] [(.int (10 : Int32)), (.int (11 : Int32)), (.int (12 : Int32)), (.int (13 : Int32)), (.int (14 : Int32)), (.int (15 : Int32))] [(.double (4652007308841189376 : UInt64)), (.double (4652016104934211584 : UInt64)), (.double d), (.double e0), (.double (4652042493213278208 : UInt64)), (.double (4652051289306300416 : UInt64))] [(.int (10 : Int32)), (.int (11 : Int32)), (.int i2), (.int (12 : Int32)), (.int (14 : Int32)), (.int (15 : Int32))] (4652007308841189376 : UInt64) (10 : Int32) T1244.heap n0 z1254 f1249 f1248 fu1244 fw1244 (by decide) (by decide) rfl rfl (by decide) rfl rfl (own_self own_cst.1)) (own_hw hw 16 rfl) (own_hw hw 15 rfl) (by decide) rfl (by rw [hml]; rfl) [(.int (0 : Int32)), (.int (2 : Int32)), (.int (2 : Int32)), (.int (0 : Int32)), (.int (1 : Int32)), (.double d), (.int i2), (.ref b365), (.ref b369), (.ref b1100), (.ref b1164)] 0 (by decide) (Nat.le_of_eq rfl) (by decide) (by decide) (lenOf own_pd3 rfl) rfl rfl 496 rfl (hb hby at_493) fun v1255 T1255 Lc1255 X1255 hQ1255 => ?_
            obtain ⟨rfl, Nq1255, e1255⟩ := hQ1255
            have N1256 := Fr.app N1245 Nq1255
            show own_Go _ _ _ _ _ (State.setTop _ (mkF _ 496 _ [(.int (1 : Int32))]))
            refine own_ifNo X1255 hx 499 rfl (hb hby at_496) (by decide) ?_
            refine own_iconst X1255 hx 500 rfl (hb hby at_499) (1 : Int32) rfl ?_
            refine own_iload X1255 hx 502 rfl (hb hby at_500) rfl ?_
            refine own_iload X1255 hx 504 rfl (hb hby at_502) rfl ?_
            refine own_iload X1255 hx 506 rfl (hb hby at_504) rfl ?_
            refine own_iload X1255 hx 508 rfl (hb hby at_506) rfl ?_
            refine own_dload X1255 hx 510 rfl (hb hby at_508) rfl ?_
            refine own_iloadN X1255 hx 511 rfl (hb hby at_510) rfl ?_
            refine own_aload X1255 hx 513 rfl (hb hby at_511) rfl rfl ?_
            refine own_aload X1255 hx 515 rfl (hb hby at_513) rfl rfl ?_
            refine own_aload X1255 hx 517 rfl (hb hby at_515) rfl rfl ?_
            refine own_aload X1255 hx 519 rfl (hb hby at_517) rfl rfl ?_
            refine own_callS X1255 hx hZ (y := (⟨"com/example/outpost/outpost/model/DistancesKeepNearerPinLaw", "same", "(IIIIZDI[D[I[D[I)Z"⟩ : MethodName)) hown (own_hw hw 13 rfl) (own_hw hw 14 rfl) (by decide) (rm_same_A2 l Z a0 hw [] (1 : Int32) (2 : Int32) (2 : Int32) (0 : Int32) d i2 b365 b369 b1100 b1164 k365 k369 k1100 k1164 [(.double (4652007308841189376 : UInt64)), (.double (4652016104934211584 : UInt64)), (.double e0), (.double e1), (.double (4652042493213278208 : UInt64)), (.double (4652051289306300416 : UInt64))] [(.int (10 : Int32)), (.int (11 : Int32)), (.int (12 : Int32)), (.int (13 : Int32)), (.int (14 : Int32)), (.int (15 : Int32))] [(.double (4652007308841189376 : UInt64)), (.double (4652016104934211584 : UInt64)), (.double d), (.double e0), (.double (4652042493213278208 : UInt64)), (.double (4652051289306300416 : UInt64))] [(.int (10 : Int32)), (.int (11 : Int32)), (.int i2), (.int (12 : Int32)), (.int (14 : Int32)), (.int (15 : Int32))] (4652016104934211584 : UInt64) (11 : Int32) T1244.heap n0 z1254 f1249 f1248 fu1244 fw1244 (by decide) (by decide) rfl rfl (by decide) rfl rfl (own_self own_cst.2.1)) (own_hw hw 16 rfl) (own_hw hw 15 rfl) (by decide) e1255 (by rw [hml]; rfl) [(.int (1 : Int32)), (.int (2 : Int32)), (.int (2 : Int32)), (.int (0 : Int32)), (.int (1 : Int32)), (.double d), (.int i2), (.ref b365), (.ref b369), (.ref b1100), (.ref b1164)] 0 (by decide) (Nat.le_of_eq rfl) (by decide) (by decide) (lenOf own_pd3 rfl) rfl rfl 522 rfl (hb hby at_519) fun v1257 T1257 Lc1257 X1257 hQ1257 => ?_
            obtain ⟨rfl, Nq1257, e1257⟩ := hQ1257
            have N1258 := Fr.app N1256 Nq1257
            show own_Go _ _ _ _ _ (State.setTop _ (mkF _ 522 _ [(.int (1 : Int32))]))
            refine own_ifNo X1257 hx 525 rfl (hb hby at_522) (by decide) ?_
            refine own_iconst X1257 hx 526 rfl (hb hby at_525) (2 : Int32) rfl ?_
            refine own_iload X1257 hx 528 rfl (hb hby at_526) rfl ?_
            refine own_iload X1257 hx 530 rfl (hb hby at_528) rfl ?_
            refine own_iload X1257 hx 532 rfl (hb hby at_530) rfl ?_
            refine own_iload X1257 hx 534 rfl (hb hby at_532) rfl ?_
            refine own_dload X1257 hx 536 rfl (hb hby at_534) rfl ?_
            refine own_iloadN X1257 hx 537 rfl (hb hby at_536) rfl ?_
            refine own_aload X1257 hx 539 rfl (hb hby at_537) rfl rfl ?_
            refine own_aload X1257 hx 541 rfl (hb hby at_539) rfl rfl ?_
            refine own_aload X1257 hx 543 rfl (hb hby at_541) rfl rfl ?_
            refine own_aload X1257 hx 545 rfl (hb hby at_543) rfl rfl ?_
            refine own_callS X1257 hx hZ (y := (⟨"com/example/outpost/outpost/model/DistancesKeepNearerPinLaw", "same", "(IIIIZDI[D[I[D[I)Z"⟩ : MethodName)) hown (own_hw hw 13 rfl) (own_hw hw 14 rfl) (by decide) (rm_same_C l Z a0 hw [] (2 : Int32) (2 : Int32) (2 : Int32) (0 : Int32) d i2 b365 b369 b1100 b1164 k365 k369 k1100 k1164 [(.double (4652007308841189376 : UInt64)), (.double (4652016104934211584 : UInt64)), (.double e0), (.double e1), (.double (4652042493213278208 : UInt64)), (.double (4652051289306300416 : UInt64))] [(.int (10 : Int32)), (.int (11 : Int32)), (.int (12 : Int32)), (.int (13 : Int32)), (.int (14 : Int32)), (.int (15 : Int32))] [(.double (4652007308841189376 : UInt64)), (.double (4652016104934211584 : UInt64)), (.double d), (.double e0), (.double (4652042493213278208 : UInt64)), (.double (4652051289306300416 : UInt64))] [(.int (10 : Int32)), (.int (11 : Int32)), (.int i2), (.int (12 : Int32)), (.int (14 : Int32)), (.int (15 : Int32))] d i2 T1244.heap n0 z1254 f1249 f1248 fu1244 fw1244 (by decide) (by decide) (by decide) (by decide) rfl rfl (by decide) rfl rfl (own_self hd)) (own_hw hw 16 rfl) (own_hw hw 15 rfl) (by decide) e1257 (by rw [hml]; rfl) [(.int (2 : Int32)), (.int (2 : Int32)), (.int (2 : Int32)), (.int (0 : Int32)), (.int (1 : Int32)), (.double d), (.int i2), (.ref b365), (.ref b369), (.ref b1100), (.ref b1164)] 0 (by decide) (Nat.le_of_eq rfl) (by decide) (by decide) (lenOf own_pd3 rfl) rfl rfl 548 rfl (hb hby at_545) fun v1259 T1259 Lc1259 X1259 hQ1259 => ?_
            obtain ⟨rfl, Nq1259, e1259⟩ := hQ1259
            have N1260 := Fr.app N1258 Nq1259
            show own_Go _ _ _ _ _ (State.setTop _ (mkF _ 548 _ [(.int (1 : Int32))]))
            refine own_ifNo X1259 hx 551 rfl (hb hby at_548) (by decide) ?_
            refine own_iconst X1259 hx 552 rfl (hb hby at_551) (3 : Int32) rfl ?_
            refine own_iload X1259 hx 554 rfl (hb hby at_552) rfl ?_
            refine own_iload X1259 hx 556 rfl (hb hby at_554) rfl ?_
            refine own_iload X1259 hx 558 rfl (hb hby at_556) rfl ?_
            refine own_iload X1259 hx 560 rfl (hb hby at_558) rfl ?_
            refine own_dload X1259 hx 562 rfl (hb hby at_560) rfl ?_
            refine own_iloadN X1259 hx 563 rfl (hb hby at_562) rfl ?_
            refine own_aload X1259 hx 565 rfl (hb hby at_563) rfl rfl ?_
            refine own_aload X1259 hx 567 rfl (hb hby at_565) rfl rfl ?_
            refine own_aload X1259 hx 569 rfl (hb hby at_567) rfl rfl ?_
            refine own_aload X1259 hx 571 rfl (hb hby at_569) rfl rfl ?_
            refine own_callS X1259 hx hZ (y := (⟨"com/example/outpost/outpost/model/DistancesKeepNearerPinLaw", "same", "(IIIIZDI[D[I[D[I)Z"⟩ : MethodName)) hown (own_hw hw 13 rfl) (own_hw hw 14 rfl) (by decide) (rm_same_D l Z a0 hw [] (3 : Int32) (2 : Int32) (2 : Int32) (0 : Int32) d i2 b365 b369 b1100 b1164 k365 k369 k1100 k1164 [(.double (4652007308841189376 : UInt64)), (.double (4652016104934211584 : UInt64)), (.double e0), (.double e1), (.double (4652042493213278208 : UInt64)), (.double (4652051289306300416 : UInt64))] [(.int (10 : Int32)), (.int (11 : Int32)), (.int (12 : Int32)), (.int (13 : Int32)), (.int (14 : Int32)), (.int (15 : Int32))] [(.double (4652007308841189376 : UInt64)), (.double (4652016104934211584 : UInt64)), (.double d), (.double e0), (.double (4652042493213278208 : UInt64)), (.double (4652051289306300416 : UInt64))] [(.int (10 : Int32)), (.int (11 : Int32)), (.int i2), (.int (12 : Int32)), (.int (14 : Int32)), (.int (15 : Int32))] e0 (12 : Int32) T1244.heap n0 z1254 f1249 f1248 fu1244 fw1244 (by decide) (by decide) (by decide) (by decide) (by decide) rfl rfl (by decide) rfl rfl (own_self nn0)) (own_hw hw 16 rfl) (own_hw hw 15 rfl) (by decide) e1259 (by rw [hml]; rfl) [(.int (3 : Int32)), (.int (2 : Int32)), (.int (2 : Int32)), (.int (0 : Int32)), (.int (1 : Int32)), (.double d), (.int i2), (.ref b365), (.ref b369), (.ref b1100), (.ref b1164)] 0 (by decide) (Nat.le_of_eq rfl) (by decide) (by decide) (lenOf own_pd3 rfl) rfl rfl 574 rfl (hb hby at_571) fun v1261 T1261 Lc1261 X1261 hQ1261 => ?_
            obtain ⟨rfl, Nq1261, e1261⟩ := hQ1261
            have N1262 := Fr.app N1260 Nq1261
            show own_Go _ _ _ _ _ (State.setTop _ (mkF _ 574 _ [(.int (1 : Int32))]))
            refine own_ifNo X1261 hx 577 rfl (hb hby at_574) (by decide) ?_
            refine own_iconst X1261 hx 578 rfl (hb hby at_577) (4 : Int32) rfl ?_
            refine own_iload X1261 hx 580 rfl (hb hby at_578) rfl ?_
            refine own_iload X1261 hx 582 rfl (hb hby at_580) rfl ?_
            refine own_iload X1261 hx 584 rfl (hb hby at_582) rfl ?_
            refine own_iload X1261 hx 586 rfl (hb hby at_584) rfl ?_
            refine own_dload X1261 hx 588 rfl (hb hby at_586) rfl ?_
            refine own_iloadN X1261 hx 589 rfl (hb hby at_588) rfl ?_
            refine own_aload X1261 hx 591 rfl (hb hby at_589) rfl rfl ?_
            refine own_aload X1261 hx 593 rfl (hb hby at_591) rfl rfl ?_
            refine own_aload X1261 hx 595 rfl (hb hby at_593) rfl rfl ?_
            refine own_aload X1261 hx 597 rfl (hb hby at_595) rfl rfl ?_
            refine own_callS X1261 hx hZ (y := (⟨"com/example/outpost/outpost/model/DistancesKeepNearerPinLaw", "same", "(IIIIZDI[D[I[D[I)Z"⟩ : MethodName)) hown (own_hw hw 13 rfl) (own_hw hw 14 rfl) (by decide) (rm_same_A3 l Z a0 hw [] (4 : Int32) (2 : Int32) (2 : Int32) (0 : Int32) d i2 b365 b369 b1100 b1164 k365 k369 k1100 k1164 [(.double (4652007308841189376 : UInt64)), (.double (4652016104934211584 : UInt64)), (.double e0), (.double e1), (.double (4652042493213278208 : UInt64)), (.double (4652051289306300416 : UInt64))] [(.int (10 : Int32)), (.int (11 : Int32)), (.int (12 : Int32)), (.int (13 : Int32)), (.int (14 : Int32)), (.int (15 : Int32))] [(.double (4652007308841189376 : UInt64)), (.double (4652016104934211584 : UInt64)), (.double d), (.double e0), (.double (4652042493213278208 : UInt64)), (.double (4652051289306300416 : UInt64))] [(.int (10 : Int32)), (.int (11 : Int32)), (.int i2), (.int (12 : Int32)), (.int (14 : Int32)), (.int (15 : Int32))] (4652042493213278208 : UInt64) (14 : Int32) T1244.heap n0 z1254 f1249 f1248 fu1244 fw1244 (by decide) (by decide) (by decide) rfl rfl (by decide) rfl rfl (own_self own_cst.2.2.2.2.1)) (own_hw hw 16 rfl) (own_hw hw 15 rfl) (by decide) e1261 (by rw [hml]; rfl) [(.int (4 : Int32)), (.int (2 : Int32)), (.int (2 : Int32)), (.int (0 : Int32)), (.int (1 : Int32)), (.double d), (.int i2), (.ref b365), (.ref b369), (.ref b1100), (.ref b1164)] 0 (by decide) (Nat.le_of_eq rfl) (by decide) (by decide) (lenOf own_pd3 rfl) rfl rfl 600 rfl (hb hby at_597) fun v1263 T1263 Lc1263 X1263 hQ1263 => ?_
            obtain ⟨rfl, Nq1263, e1263⟩ := hQ1263
            have N1264 := Fr.app N1262 Nq1263
            show own_Go _ _ _ _ _ (State.setTop _ (mkF _ 600 _ [(.int (1 : Int32))]))
            refine own_ifNo X1263 hx 603 rfl (hb hby at_600) (by decide) ?_
            refine own_iconst X1263 hx 604 rfl (hb hby at_603) (5 : Int32) rfl ?_
            refine own_iload X1263 hx 606 rfl (hb hby at_604) rfl ?_
            refine own_iload X1263 hx 608 rfl (hb hby at_606) rfl ?_
            refine own_iload X1263 hx 610 rfl (hb hby at_608) rfl ?_
            refine own_iload X1263 hx 612 rfl (hb hby at_610) rfl ?_
            refine own_dload X1263 hx 614 rfl (hb hby at_612) rfl ?_
            refine own_iloadN X1263 hx 615 rfl (hb hby at_614) rfl ?_
            refine own_aload X1263 hx 617 rfl (hb hby at_615) rfl rfl ?_
            refine own_aload X1263 hx 619 rfl (hb hby at_617) rfl rfl ?_
            refine own_aload X1263 hx 621 rfl (hb hby at_619) rfl rfl ?_
            refine own_aload X1263 hx 623 rfl (hb hby at_621) rfl rfl ?_
            refine own_callS X1263 hx hZ (y := (⟨"com/example/outpost/outpost/model/DistancesKeepNearerPinLaw", "same", "(IIIIZDI[D[I[D[I)Z"⟩ : MethodName)) hown (own_hw hw 13 rfl) (own_hw hw 14 rfl) (by decide) (rm_same_A3 l Z a0 hw [] (5 : Int32) (2 : Int32) (2 : Int32) (0 : Int32) d i2 b365 b369 b1100 b1164 k365 k369 k1100 k1164 [(.double (4652007308841189376 : UInt64)), (.double (4652016104934211584 : UInt64)), (.double e0), (.double e1), (.double (4652042493213278208 : UInt64)), (.double (4652051289306300416 : UInt64))] [(.int (10 : Int32)), (.int (11 : Int32)), (.int (12 : Int32)), (.int (13 : Int32)), (.int (14 : Int32)), (.int (15 : Int32))] [(.double (4652007308841189376 : UInt64)), (.double (4652016104934211584 : UInt64)), (.double d), (.double e0), (.double (4652042493213278208 : UInt64)), (.double (4652051289306300416 : UInt64))] [(.int (10 : Int32)), (.int (11 : Int32)), (.int i2), (.int (12 : Int32)), (.int (14 : Int32)), (.int (15 : Int32))] (4652051289306300416 : UInt64) (15 : Int32) T1244.heap n0 z1254 f1249 f1248 fu1244 fw1244 (by decide) (by decide) (by decide) rfl rfl (by decide) rfl rfl (own_self own_cst.2.2.2.2.2)) (own_hw hw 16 rfl) (own_hw hw 15 rfl) (by decide) e1263 (by rw [hml]; rfl) [(.int (5 : Int32)), (.int (2 : Int32)), (.int (2 : Int32)), (.int (0 : Int32)), (.int (1 : Int32)), (.double d), (.int i2), (.ref b365), (.ref b369), (.ref b1100), (.ref b1164)] 0 (by decide) (Nat.le_of_eq rfl) (by decide) (by decide) (lenOf own_pd3 rfl) rfl rfl 626 rfl (hb hby at_623) fun v1265 T1265 Lc1265 X1265 hQ1265 => ?_
            obtain ⟨rfl, Nq1265, e1265⟩ := hQ1265
            have N1266 := Fr.app N1264 Nq1265
            show own_Go _ _ _ _ _ (State.setTop _ (mkF _ 626 _ [(.int (1 : Int32))]))
            refine own_ifNo X1265 hx 629 rfl (hb hby at_626) (by decide) ?_
            refine own_iconst X1265 hx 630 rfl (hb hby at_629) (1 : Int32) rfl ?_
            refine own_goto X1265 hx 634 (hb hby at_630) (by decide) rfl ?_
            refine own_ret X1265 (some (.int (1 : Int32))) (fun h => by rw [Bd.returns] at h; cases h) Bd.notSynchronized (by decide) (by decide) ?_ (fun fs hr => retN X1265 hx (t := .boolean) Bd.returns (by simp) (hb hby at_634) hr)
            show Q_rm0 Z i0 i1 i2 h0 n0 _ T1265.heap _
            rw [e1265]
            exact ⟨rfl, N1266⟩
          ·
            by_cases hc1267 : own_z d < own_z e1
            ·
              refine own_dcmp X1232 hx 379 rfl (hb hby at_378) _ rfl ?_
              refine own_ifNo X1232 hx 382 rfl (hb hby at_379) ((if0 _ _).trans (tlt (own_cg hd nn1 hc1267 .g)).2.1) ?_
              refine own_iconst X1232 hx 383 rfl (hb hby at_382) (1 : Int32) rfl ?_
              refine own_goto X1232 hx 387 (hb hby at_383) (by decide) rfl ?_
              refine own_istore X1232 hx 389 rfl (hb hby at_387) #[.val (.int i0), .val (.int i1), .val (.int i2), .val (.double (9218868437227405312 : UInt64)), .second, .val (.int (2 : Int32)), .val (.int (1 : Int32)), .val (.int (own_k i0)), .val (.int f8), .val (.int (own_a0 i1)), .val (.int (own_a1 i1)), .val (.int (own_a2 i1)), .val (.double d), .second, .val (.ref b365), .val (.ref b369), .val (.int (2 : Int32)), .val (.ref b1100), .val (.ref b1164), .val (.int (1 : Int32)), .unset, .unset] rfl ?_
              refine own_iconst X1232 hx 390 rfl (hb hby at_389) (0 : Int32) rfl ?_
              refine own_istore X1232 hx 392 rfl (hb hby at_390) #[.val (.int i0), .val (.int i1), .val (.int i2), .val (.double (9218868437227405312 : UInt64)), .second, .val (.int (2 : Int32)), .val (.int (1 : Int32)), .val (.int (own_k i0)), .val (.int f8), .val (.int (own_a0 i1)), .val (.int (own_a1 i1)), .val (.int (own_a2 i1)), .val (.double d), .second, .val (.ref b365), .val (.ref b369), .val (.int (2 : Int32)), .val (.ref b1100), .val (.ref b1164), .val (.int (1 : Int32)), .val (.int (0 : Int32)), .unset] rfl ?_
              refine own_aload X1232 hx 394 rfl (hb hby at_392) rfl rfl ?_
              refine own_iload X1232 hx 396 rfl (hb hby at_394) rfl ?_
              refine own_ldD X1232 hx hZ e1232 f1237 ⟨by decide, by decide⟩ e0 rfl 397 rfl (hb hby at_396) ?_
              refine own_dload X1232 hx 399 rfl (hb hby at_397) rfl ?_
              refine own_dcmp X1232 hx 400 rfl (hb hby at_399) _ rfl ?_
              refine own_ifNo X1232 hx 403 rfl (hb hby at_400) ((if0 _ _).trans (flt (own_cmp_le nn0 hd (Int.not_lt.mp hc1243) .g)).2.2.1) ?_
              refine own_iinc X1232 hx 406 rfl (hb hby at_403) rfl #[.val (.int i0), .val (.int i1), .val (.int i2), .val (.double (9218868437227405312 : UInt64)), .second, .val (.int (2 : Int32)), .val (.int (1 : Int32)), .val (.int (own_k i0)), .val (.int f8), .val (.int (own_a0 i1)), .val (.int (own_a1 i1)), .val (.int (own_a2 i1)), .val (.double d), .second, .val (.ref b365), .val (.ref b369), .val (.int (2 : Int32)), .val (.ref b1100), .val (.ref b1164), .val (.int (1 : Int32)), .val (.int (1 : Int32)), .unset] rfl ?_
              refine own_iload X1232 hx 408 rfl (hb hby at_406) rfl ?_
              refine own_iconst X1232 hx 409 rfl (hb hby at_408) (2 : Int32) rfl ?_
              refine own_icmpNo X1232 hx 412 rfl (hb hby at_409) (by decide) ?_
              refine own_aload X1232 hx 414 rfl (hb hby at_412) rfl rfl ?_
              refine own_iload X1232 hx 416 rfl (hb hby at_414) rfl ?_
              refine own_iconst X1232 hx 417 rfl (hb hby at_416) (1 : Int32) rfl ?_
              refine own_iadd X1232 hx 418 rfl (hb hby at_417) (3 : Int32) rfl ?_
              refine own_ldD X1232 hx hZ e1232 f1237 ⟨by decide, by decide⟩ e1 rfl 419 rfl (hb hby at_418) ?_
              refine own_dload X1232 hx 421 rfl (hb hby at_419) rfl ?_
              refine own_dcmp X1232 hx 422 rfl (hb hby at_421) _ rfl ?_
              refine own_ifYes X1232 hx 428 (hb hby at_422) ((if0 _ _).trans (tlt (own_cp nn1 hd hc1267 .g)).2.2.1) (by decide) rfl ?_
              refine own_iload X1232 hx 430 rfl (hb hby at_428) rfl ?_
              refine own_iconst X1232 hx 431 rfl (hb hby at_430) (3 : Int32) rfl ?_
              refine own_icmpYes X1232 hx 450 (hb hby at_431) (by decide) (by decide) rfl ?_
              refine own_iloadN X1232 hx 451 rfl (hb hby at_450) rfl ?_
              refine own_dload X1232 hx 453 rfl (hb hby at_451) rfl ?_
              refine own_iload X1232 hx 455 rfl (hb hby at_453) rfl ?_
              refine own_iload X1232 hx 457 rfl (hb hby at_455) rfl ?_
              refine own_aload X1232 hx 459 rfl (hb hby at_457) rfl rfl ?_
              refine own_aload X1232 hx 461 rfl (hb hby at_459) rfl rfl ?_
              refine own_callS X1232 hx hZ (y := (⟨"com/example/outpost/outpost/model/Distances", "keepNearer", "(IDII[D[I)Z"⟩ : MethodName)) hown (own_hw hw 9 rfl) (own_hw hw 10 rfl) (by decide) (rm_keep_2_1_1 l Z a0 hw [] i2 d b1100 b1164 k1100 k1164 (4652007308841189376 : UInt64) (4652016104934211584 : UInt64) e0 e1 (4652042493213278208 : UInt64) (4652051289306300416 : UInt64) (10 : Int32) (11 : Int32) (12 : Int32) (13 : Int32) (14 : Int32) (15 : Int32) h1232 n0 z1241 f1239 f1233 ne1167 ge1103 ge1168 (own_cg hd nn1 hc1267 .g) (own_cmp_le nn0 hd (Int.not_lt.mp hc1243) .l)) (own_hw hw 12 rfl) (own_hw hw 11 rfl) (by decide) e1232 (by rw [hml]; rfl) [(.int i2), (.double d), (.int (1 : Int32)), (.int (2 : Int32)), (.ref b1100), (.ref b1164)] 0 (by decide) (Nat.le_of_eq rfl) (by decide) (by decide) (lenOf own_pd2 rfl) rfl rfl 464 rfl (hb hby at_461) fun v1268 T1268 Lc1268 X1268 hQ1268 => ?_
              obtain ⟨rfl, Nq1268, Kq1268, fu1268, fw1268⟩ := hQ1268
              have N1269 := Fr.app N1242 Nq1268
              have f1270 := f1234.keep Kq1268
              have f1271 := f1235.keep Kq1268
              have f1272 := f1236.keep Kq1268 (ninS ne1102 (ninS ne1166 nin0))
              have f1273 := f1237.keep Kq1268 (ninS ne1101 (ninS ne1165 nin0))
              have f1274 := f1238.keep Kq1268
              have f1276 := f1240.keep Kq1268
              have z1278 := Nat.le_trans z1241 Kq1268.1
              show own_Go _ _ _ _ _ (State.setTop _ (mkF _ 464 _ [(.int (1 : Int32))]))
              refine own_istore X1268 hx 466 rfl (hb hby at_464) #[.val (.int i0), .val (.int i1), .val (.int i2), .val (.double (9218868437227405312 : UInt64)), .second, .val (.int (2 : Int32)), .val (.int (1 : Int32)), .val (.int (own_k i0)), .val (.int f8), .val (.int (own_a0 i1)), .val (.int (own_a1 i1)), .val (.int (own_a2 i1)), .val (.double d), .second, .val (.ref b365), .val (.ref b369), .val (.int (2 : Int32)), .val (.ref b1100), .val (.ref b1164), .val (.int (1 : Int32)), .val (.int (1 : Int32)), .val (.int (1 : Int32))] rfl ?_
              refine own_iload X1268 hx 468 rfl (hb hby at_466) rfl ?_
              refine own_iload X1268 hx 470 rfl (hb hby at_468) rfl ?_
              refine own_icmpNo X1268 hx 473 rfl (hb hby at_470) (by decide) ?_
              refine own_iconst X1268 hx 474 rfl (hb hby at_473) (0 : Int32) rfl ?_
              refine own_iload X1268 hx 476 rfl (hb hby at_474) rfl ?_
              refine own_iload X1268 hx 478 rfl (hb hby at_476) rfl ?_
              refine own_iload X1268 hx 480 rfl (hb hby at_478) rfl ?_
              refine own_iload X1268 hx 482 rfl (hb hby at_480) rfl ?_
              refine own_dload X1268 hx 484 rfl (hb hby at_482) rfl ?_
              refine own_iloadN X1268 hx 485 rfl (hb hby at_484) rfl ?_
              refine own_aload X1268 hx 487 rfl (hb hby at_485) rfl rfl ?_
              refine own_aload X1268 hx 489 rfl (hb hby at_487) rfl rfl ?_
              refine own_aload X1268 hx 491 rfl (hb hby at_489) rfl rfl ?_
              refine own_aload X1268 hx 493 rfl (hb hby at_491) rfl rfl ?_
              refine own_callS X1268 hx hZ (y := (⟨"com/example/outpost/outpost/model/DistancesKeepNearerPinLaw", "same", "(IIIIZDI[D[I[D[I)Z"⟩ : MethodName)) hown (own_hw hw 13 rfl) (own_hw hw 14 rfl) (by decide) (rm_same_A2 l Z a0 hw [] (0 : Int32) (2 : Int32) (2 : Int32) (1 : Int32) d i2 b365 b369 b1100 b1164 k365 k369 k1100 k1164 [(.double (4652007308841189376 : UInt64)), (.double (4652016104934211584 : UInt64)), (.double e0), (.double e1), (.double (4652042493213278208 : UInt64)), (.double (4652051289306300416 : UInt64))] [(.int (10 : Int32)), (.int (11 : Int32)), (.int (12 : Int32)), (.int (13 : Int32)), (.int (14 : Int32)), (.int (15 : Int32))] [(.double (4652007308841189376 : UInt64)), (.double (4652016104934211584 : UInt64)), (.double e0), (.double d), (.double (4652042493213278208 : UInt64)), (.double (4652051289306300416 : UInt64))] [(.int (10 : Int32)), (.int (11 : Int32)), (.int (12 : Int32)), (.int i2), (.int (14 : Int32)), (.int (15 : Int32))] (4652007308841189376 : UInt64) (10 : Int32) T1268.heap n0 z1278 f1273 f1272 fu1268 fw1268 (by decide) (by decide) rfl rfl (by decide) rfl rfl (own_self own_cst.1)) (own_hw hw 16 rfl) (own_hw hw 15 rfl) (by decide) rfl (by rw [hml]; rfl) [(.int (0 : Int32)), (.int (2 : Int32)), (.int (2 : Int32)), (.int (1 : Int32)), (.int (1 : Int32)), (.double d), (.int i2), (.ref b365), (.ref b369), (.ref b1100), (.ref b1164)] 0 (by decide) (Nat.le_of_eq rfl) (by decide) (by decide) (lenOf own_pd3 rfl) rfl rfl 496 rfl (hb hby at_493) fun v1279 T1279 Lc1279 X1279 hQ1279 => ?_
              obtain ⟨rfl, Nq1279, e1279⟩ := hQ1279
              have N1280 := Fr.app N1269 Nq1279
              show own_Go _ _ _ _ _ (State.setTop _ (mkF _ 496 _ [(.int (1 : Int32))]))
              refine own_ifNo X1279 hx 499 rfl (hb hby at_496) (by decide) ?_
              refine own_iconst X1279 hx 500 rfl (hb hby at_499) (1 : Int32) rfl ?_
              refine own_iload X1279 hx 502 rfl (hb hby at_500) rfl ?_
              refine own_iload X1279 hx 504 rfl (hb hby at_502) rfl ?_
              refine own_iload X1279 hx 506 rfl (hb hby at_504) rfl ?_
              refine own_iload X1279 hx 508 rfl (hb hby at_506) rfl ?_
              refine own_dload X1279 hx 510 rfl (hb hby at_508) rfl ?_
              refine own_iloadN X1279 hx 511 rfl (hb hby at_510) rfl ?_
              refine own_aload X1279 hx 513 rfl (hb hby at_511) rfl rfl ?_
              refine own_aload X1279 hx 515 rfl (hb hby at_513) rfl rfl ?_
              refine own_aload X1279 hx 517 rfl (hb hby at_515) rfl rfl ?_
              refine own_aload X1279 hx 519 rfl (hb hby at_517) rfl rfl ?_
              refine own_callS X1279 hx hZ (y := (⟨"com/example/outpost/outpost/model/DistancesKeepNearerPinLaw", "same", "(IIIIZDI[D[I[D[I)Z"⟩ : MethodName)) hown (own_hw hw 13 rfl) (own_hw hw 14 rfl) (by decide) (rm_same_A2 l Z a0 hw [] (1 : Int32) (2 : Int32) (2 : Int32) (1 : Int32) d i2 b365 b369 b1100 b1164 k365 k369 k1100 k1164 [(.double (4652007308841189376 : UInt64)), (.double (4652016104934211584 : UInt64)), (.double e0), (.double e1), (.double (4652042493213278208 : UInt64)), (.double (4652051289306300416 : UInt64))] [(.int (10 : Int32)), (.int (11 : Int32)), (.int (12 : Int32)), (.int (13 : Int32)), (.int (14 : Int32)), (.int (15 : Int32))] [(.double (4652007308841189376 : UInt64)), (.double (4652016104934211584 : UInt64)), (.double e0), (.double d), (.double (4652042493213278208 : UInt64)), (.double (4652051289306300416 : UInt64))] [(.int (10 : Int32)), (.int (11 : Int32)), (.int (12 : Int32)), (.int i2), (.int (14 : Int32)), (.int (15 : Int32))] (4652016104934211584 : UInt64) (11 : Int32) T1268.heap n0 z1278 f1273 f1272 fu1268 fw1268 (by decide) (by decide) rfl rfl (by decide) rfl rfl (own_self own_cst.2.1)) (own_hw hw 16 rfl) (own_hw hw 15 rfl) (by decide) e1279 (by rw [hml]; rfl) [(.int (1 : Int32)), (.int (2 : Int32)), (.int (2 : Int32)), (.int (1 : Int32)), (.int (1 : Int32)), (.double d), (.int i2), (.ref b365), (.ref b369), (.ref b1100), (.ref b1164)] 0 (by decide) (Nat.le_of_eq rfl) (by decide) (by decide) (lenOf own_pd3 rfl) rfl rfl 522 rfl (hb hby at_519) fun v1281 T1281 Lc1281 X1281 hQ1281 => ?_
              obtain ⟨rfl, Nq1281, e1281⟩ := hQ1281
              have N1282 := Fr.app N1280 Nq1281
              show own_Go _ _ _ _ _ (State.setTop _ (mkF _ 522 _ [(.int (1 : Int32))]))
              refine own_ifNo X1281 hx 525 rfl (hb hby at_522) (by decide) ?_
              refine own_iconst X1281 hx 526 rfl (hb hby at_525) (2 : Int32) rfl ?_
              refine own_iload X1281 hx 528 rfl (hb hby at_526) rfl ?_
              refine own_iload X1281 hx 530 rfl (hb hby at_528) rfl ?_
              refine own_iload X1281 hx 532 rfl (hb hby at_530) rfl ?_
              refine own_iload X1281 hx 534 rfl (hb hby at_532) rfl ?_
              refine own_dload X1281 hx 536 rfl (hb hby at_534) rfl ?_
              refine own_iloadN X1281 hx 537 rfl (hb hby at_536) rfl ?_
              refine own_aload X1281 hx 539 rfl (hb hby at_537) rfl rfl ?_
              refine own_aload X1281 hx 541 rfl (hb hby at_539) rfl rfl ?_
              refine own_aload X1281 hx 543 rfl (hb hby at_541) rfl rfl ?_
              refine own_aload X1281 hx 545 rfl (hb hby at_543) rfl rfl ?_
              refine own_callS X1281 hx hZ (y := (⟨"com/example/outpost/outpost/model/DistancesKeepNearerPinLaw", "same", "(IIIIZDI[D[I[D[I)Z"⟩ : MethodName)) hown (own_hw hw 13 rfl) (own_hw hw 14 rfl) (by decide) (rm_same_B l Z a0 hw [] (2 : Int32) (2 : Int32) (2 : Int32) (1 : Int32) d i2 b365 b369 b1100 b1164 k365 k369 k1100 k1164 [(.double (4652007308841189376 : UInt64)), (.double (4652016104934211584 : UInt64)), (.double e0), (.double e1), (.double (4652042493213278208 : UInt64)), (.double (4652051289306300416 : UInt64))] [(.int (10 : Int32)), (.int (11 : Int32)), (.int (12 : Int32)), (.int (13 : Int32)), (.int (14 : Int32)), (.int (15 : Int32))] [(.double (4652007308841189376 : UInt64)), (.double (4652016104934211584 : UInt64)), (.double e0), (.double d), (.double (4652042493213278208 : UInt64)), (.double (4652051289306300416 : UInt64))] [(.int (10 : Int32)), (.int (11 : Int32)), (.int (12 : Int32)), (.int i2), (.int (14 : Int32)), (.int (15 : Int32))] e0 (12 : Int32) T1268.heap n0 z1278 f1273 f1272 fu1268 fw1268 (by decide) (by decide) (by decide) (by decide) rfl rfl (by decide) rfl rfl (own_self nn0)) (own_hw hw 16 rfl) (own_hw hw 15 rfl) (by decide) e1281 (by rw [hml]; rfl) [(.int (2 : Int32)), (.int (2 : Int32)), (.int (2 : Int32)), (.int (1 : Int32)), (.int (1 : Int32)), (.double d), (.int i2), (.ref b365), (.ref b369), (.ref b1100), (.ref b1164)] 0 (by decide) (Nat.le_of_eq rfl) (by decide) (by decide) (lenOf own_pd3 rfl) rfl rfl 548 rfl (hb hby at_545) fun v1283 T1283 Lc1283 X1283 hQ1283 => ?_
              obtain ⟨rfl, Nq1283, e1283⟩ := hQ1283
              have N1284 := Fr.app N1282 Nq1283
              show own_Go _ _ _ _ _ (State.setTop _ (mkF _ 548 _ [(.int (1 : Int32))]))
              refine own_ifNo X1283 hx 551 rfl (hb hby at_548) (by decide) ?_
              refine own_iconst X1283 hx 552 rfl (hb hby at_551) (3 : Int32) rfl ?_
              refine own_iload X1283 hx 554 rfl (hb hby at_552) rfl ?_
              refine own_iload X1283 hx 556 rfl (hb hby at_554) rfl ?_
              refine own_iload X1283 hx 558 rfl (hb hby at_556) rfl ?_
              refine own_iload X1283 hx 560 rfl (hb hby at_558) rfl ?_
              refine own_dload X1283 hx 562 rfl (hb hby at_560) rfl ?_
              refine own_iloadN X1283 hx 563 rfl (hb hby at_562) rfl ?_
              refine own_aload X1283 hx 565 rfl (hb hby at_563) rfl rfl ?_
              refine own_aload X1283 hx 567 rfl (hb hby at_565) rfl rfl ?_
              refine own_aload X1283 hx 569 rfl (hb hby at_567) rfl rfl ?_
              refine own_aload X1283 hx 571 rfl (hb hby at_569) rfl rfl ?_
              refine own_callS X1283 hx hZ (y := (⟨"com/example/outpost/outpost/model/DistancesKeepNearerPinLaw", "same", "(IIIIZDI[D[I[D[I)Z"⟩ : MethodName)) hown (own_hw hw 13 rfl) (own_hw hw 14 rfl) (by decide) (rm_same_C l Z a0 hw [] (3 : Int32) (2 : Int32) (2 : Int32) (1 : Int32) d i2 b365 b369 b1100 b1164 k365 k369 k1100 k1164 [(.double (4652007308841189376 : UInt64)), (.double (4652016104934211584 : UInt64)), (.double e0), (.double e1), (.double (4652042493213278208 : UInt64)), (.double (4652051289306300416 : UInt64))] [(.int (10 : Int32)), (.int (11 : Int32)), (.int (12 : Int32)), (.int (13 : Int32)), (.int (14 : Int32)), (.int (15 : Int32))] [(.double (4652007308841189376 : UInt64)), (.double (4652016104934211584 : UInt64)), (.double e0), (.double d), (.double (4652042493213278208 : UInt64)), (.double (4652051289306300416 : UInt64))] [(.int (10 : Int32)), (.int (11 : Int32)), (.int (12 : Int32)), (.int i2), (.int (14 : Int32)), (.int (15 : Int32))] d i2 T1268.heap n0 z1278 f1273 f1272 fu1268 fw1268 (by decide) (by decide) (by decide) (by decide) rfl rfl (by decide) rfl rfl (own_self hd)) (own_hw hw 16 rfl) (own_hw hw 15 rfl) (by decide) e1283 (by rw [hml]; rfl) [(.int (3 : Int32)), (.int (2 : Int32)), (.int (2 : Int32)), (.int (1 : Int32)), (.int (1 : Int32)), (.double d), (.int i2), (.ref b365), (.ref b369), (.ref b1100), (.ref b1164)] 0 (by decide) (Nat.le_of_eq rfl) (by decide) (by decide) (lenOf own_pd3 rfl) rfl rfl 574 rfl (hb hby at_571) fun v1285 T1285 Lc1285 X1285 hQ1285 => ?_
              obtain ⟨rfl, Nq1285, e1285⟩ := hQ1285
              have N1286 := Fr.app N1284 Nq1285
              show own_Go _ _ _ _ _ (State.setTop _ (mkF _ 574 _ [(.int (1 : Int32))]))
              refine own_ifNo X1285 hx 577 rfl (hb hby at_574) (by decide) ?_
              refine own_iconst X1285 hx 578 rfl (hb hby at_577) (4 : Int32) rfl ?_
              refine own_iload X1285 hx 580 rfl (hb hby at_578) rfl ?_
              refine own_iload X1285 hx 582 rfl (hb hby at_580) rfl ?_
              refine own_iload X1285 hx 584 rfl (hb hby at_582) rfl ?_
              refine own_iload X1285 hx 586 rfl (hb hby at_584) rfl ?_
              refine own_dload X1285 hx 588 rfl (hb hby at_586) rfl ?_
              refine own_iloadN X1285 hx 589 rfl (hb hby at_588) rfl ?_
              refine own_aload X1285 hx 591 rfl (hb hby at_589) rfl rfl ?_
              refine own_aload X1285 hx 593 rfl (hb hby at_591) rfl rfl ?_
              refine own_aload X1285 hx 595 rfl (hb hby at_593) rfl rfl ?_
              refine own_aload X1285 hx 597 rfl (hb hby at_595) rfl rfl ?_
              refine own_callS X1285 hx hZ (y := (⟨"com/example/outpost/outpost/model/DistancesKeepNearerPinLaw", "same", "(IIIIZDI[D[I[D[I)Z"⟩ : MethodName)) hown (own_hw hw 13 rfl) (own_hw hw 14 rfl) (by decide) (rm_same_A3 l Z a0 hw [] (4 : Int32) (2 : Int32) (2 : Int32) (1 : Int32) d i2 b365 b369 b1100 b1164 k365 k369 k1100 k1164 [(.double (4652007308841189376 : UInt64)), (.double (4652016104934211584 : UInt64)), (.double e0), (.double e1), (.double (4652042493213278208 : UInt64)), (.double (4652051289306300416 : UInt64))] [(.int (10 : Int32)), (.int (11 : Int32)), (.int (12 : Int32)), (.int (13 : Int32)), (.int (14 : Int32)), (.int (15 : Int32))] [(.double (4652007308841189376 : UInt64)), (.double (4652016104934211584 : UInt64)), (.double e0), (.double d), (.double (4652042493213278208 : UInt64)), (.double (4652051289306300416 : UInt64))] [(.int (10 : Int32)), (.int (11 : Int32)), (.int (12 : Int32)), (.int i2), (.int (14 : Int32)), (.int (15 : Int32))] (4652042493213278208 : UInt64) (14 : Int32) T1268.heap n0 z1278 f1273 f1272 fu1268 fw1268 (by decide) (by decide) (by decide) rfl rfl (by decide) rfl rfl (own_self own_cst.2.2.2.2.1)) (own_hw hw 16 rfl) (own_hw hw 15 rfl) (by decide) e1285 (by rw [hml]; rfl) [(.int (4 : Int32)), (.int (2 : Int32)), (.int (2 : Int32)), (.int (1 : Int32)), (.int (1 : Int32)), (.double d), (.int i2), (.ref b365), (.ref b369), (.ref b1100), (.ref b1164)] 0 (by decide) (Nat.le_of_eq rfl) (by decide) (by decide) (lenOf own_pd3 rfl) rfl rfl 600 rfl (hb hby at_597) fun v1287 T1287 Lc1287 X1287 hQ1287 => ?_
              obtain ⟨rfl, Nq1287, e1287⟩ := hQ1287
              have N1288 := Fr.app N1286 Nq1287
              show own_Go _ _ _ _ _ (State.setTop _ (mkF _ 600 _ [(.int (1 : Int32))]))
              refine own_ifNo X1287 hx 603 rfl (hb hby at_600) (by decide) ?_
              refine own_iconst X1287 hx 604 rfl (hb hby at_603) (5 : Int32) rfl ?_
              refine own_iload X1287 hx 606 rfl (hb hby at_604) rfl ?_
              refine own_iload X1287 hx 608 rfl (hb hby at_606) rfl ?_
              refine own_iload X1287 hx 610 rfl (hb hby at_608) rfl ?_
              refine own_iload X1287 hx 612 rfl (hb hby at_610) rfl ?_
              refine own_dload X1287 hx 614 rfl (hb hby at_612) rfl ?_
              refine own_iloadN X1287 hx 615 rfl (hb hby at_614) rfl ?_
              refine own_aload X1287 hx 617 rfl (hb hby at_615) rfl rfl ?_
              refine own_aload X1287 hx 619 rfl (hb hby at_617) rfl rfl ?_
              refine own_aload X1287 hx 621 rfl (hb hby at_619) rfl rfl ?_
              refine own_aload X1287 hx 623 rfl (hb hby at_621) rfl rfl ?_
              refine own_callS X1287 hx hZ (y := (⟨"com/example/outpost/outpost/model/DistancesKeepNearerPinLaw", "same", "(IIIIZDI[D[I[D[I)Z"⟩ : MethodName)) hown (own_hw hw 13 rfl) (own_hw hw 14 rfl) (by decide) (rm_same_A3 l Z a0 hw [] (5 : Int32) (2 : Int32) (2 : Int32) (1 : Int32) d i2 b365 b369 b1100 b1164 k365 k369 k1100 k1164 [(.double (4652007308841189376 : UInt64)), (.double (4652016104934211584 : UInt64)), (.double e0), (.double e1), (.double (4652042493213278208 : UInt64)), (.double (4652051289306300416 : UInt64))] [(.int (10 : Int32)), (.int (11 : Int32)), (.int (12 : Int32)), (.int (13 : Int32)), (.int (14 : Int32)), (.int (15 : Int32))] [(.double (4652007308841189376 : UInt64)), (.double (4652016104934211584 : UInt64)), (.double e0), (.double d), (.double (4652042493213278208 : UInt64)), (.double (4652051289306300416 : UInt64))] [(.int (10 : Int32)), (.int (11 : Int32)), (.int (12 : Int32)), (.int i2), (.int (14 : Int32)), (.int (15 : Int32))] (4652051289306300416 : UInt64) (15 : Int32) T1268.heap n0 z1278 f1273 f1272 fu1268 fw1268 (by decide) (by decide) (by decide) rfl rfl (by decide) rfl rfl (own_self own_cst.2.2.2.2.2)) (own_hw hw 16 rfl) (own_hw hw 15 rfl) (by decide) e1287 (by rw [hml]; rfl) [(.int (5 : Int32)), (.int (2 : Int32)), (.int (2 : Int32)), (.int (1 : Int32)), (.int (1 : Int32)), (.double d), (.int i2), (.ref b365), (.ref b369), (.ref b1100), (.ref b1164)] 0 (by decide) (Nat.le_of_eq rfl) (by decide) (by decide) (lenOf own_pd3 rfl) rfl rfl 626 rfl (hb hby at_623) fun v1289 T1289 Lc1289 X1289 hQ1289 => ?_
              obtain ⟨rfl, Nq1289, e1289⟩ := hQ1289
              have N1290 := Fr.app N1288 Nq1289
              show own_Go _ _ _ _ _ (State.setTop _ (mkF _ 626 _ [(.int (1 : Int32))]))
              refine own_ifNo X1289 hx 629 rfl (hb hby at_626) (by decide) ?_
              refine own_iconst X1289 hx 630 rfl (hb hby at_629) (1 : Int32) rfl ?_
              refine own_goto X1289 hx 634 (hb hby at_630) (by decide) rfl ?_
              refine own_ret X1289 (some (.int (1 : Int32))) (fun h => by rw [Bd.returns] at h; cases h) Bd.notSynchronized (by decide) (by decide) ?_ (fun fs hr => retN X1289 hx (t := .boolean) Bd.returns (by simp) (hb hby at_634) hr)
              show Q_rm0 Z i0 i1 i2 h0 n0 _ T1289.heap _
              rw [e1289]
              exact ⟨rfl, N1290⟩
            ·
              refine own_dcmp X1232 hx 379 rfl (hb hby at_378) _ rfl ?_
              refine own_ifYes X1232 hx 386 (hb hby at_379) ((if0 _ _).trans (flt (own_cmp_ge hd nn1 (Int.not_lt.mp hc1267) .g)).2.1) (by decide) rfl ?_
              refine own_iconst X1232 hx 387 rfl (hb hby at_386) (0 : Int32) rfl ?_
              refine own_istore X1232 hx 389 rfl (hb hby at_387) #[.val (.int i0), .val (.int i1), .val (.int i2), .val (.double (9218868437227405312 : UInt64)), .second, .val (.int (2 : Int32)), .val (.int (1 : Int32)), .val (.int (own_k i0)), .val (.int f8), .val (.int (own_a0 i1)), .val (.int (own_a1 i1)), .val (.int (own_a2 i1)), .val (.double d), .second, .val (.ref b365), .val (.ref b369), .val (.int (2 : Int32)), .val (.ref b1100), .val (.ref b1164), .val (.int (0 : Int32)), .unset, .unset] rfl ?_
              refine own_iconst X1232 hx 390 rfl (hb hby at_389) (0 : Int32) rfl ?_
              refine own_istore X1232 hx 392 rfl (hb hby at_390) #[.val (.int i0), .val (.int i1), .val (.int i2), .val (.double (9218868437227405312 : UInt64)), .second, .val (.int (2 : Int32)), .val (.int (1 : Int32)), .val (.int (own_k i0)), .val (.int f8), .val (.int (own_a0 i1)), .val (.int (own_a1 i1)), .val (.int (own_a2 i1)), .val (.double d), .second, .val (.ref b365), .val (.ref b369), .val (.int (2 : Int32)), .val (.ref b1100), .val (.ref b1164), .val (.int (0 : Int32)), .val (.int (0 : Int32)), .unset] rfl ?_
              refine own_aload X1232 hx 394 rfl (hb hby at_392) rfl rfl ?_
              refine own_iload X1232 hx 396 rfl (hb hby at_394) rfl ?_
              refine own_ldD X1232 hx hZ e1232 f1237 ⟨by decide, by decide⟩ e0 rfl 397 rfl (hb hby at_396) ?_
              refine own_dload X1232 hx 399 rfl (hb hby at_397) rfl ?_
              refine own_dcmp X1232 hx 400 rfl (hb hby at_399) _ rfl ?_
              refine own_ifNo X1232 hx 403 rfl (hb hby at_400) ((if0 _ _).trans (flt (own_cmp_le nn0 hd (Int.not_lt.mp hc1243) .g)).2.2.1) ?_
              refine own_iinc X1232 hx 406 rfl (hb hby at_403) rfl #[.val (.int i0), .val (.int i1), .val (.int i2), .val (.double (9218868437227405312 : UInt64)), .second, .val (.int (2 : Int32)), .val (.int (1 : Int32)), .val (.int (own_k i0)), .val (.int f8), .val (.int (own_a0 i1)), .val (.int (own_a1 i1)), .val (.int (own_a2 i1)), .val (.double d), .second, .val (.ref b365), .val (.ref b369), .val (.int (2 : Int32)), .val (.ref b1100), .val (.ref b1164), .val (.int (0 : Int32)), .val (.int (1 : Int32)), .unset] rfl ?_
              refine own_iload X1232 hx 408 rfl (hb hby at_406) rfl ?_
              refine own_iconst X1232 hx 409 rfl (hb hby at_408) (2 : Int32) rfl ?_
              refine own_icmpNo X1232 hx 412 rfl (hb hby at_409) (by decide) ?_
              refine own_aload X1232 hx 414 rfl (hb hby at_412) rfl rfl ?_
              refine own_iload X1232 hx 416 rfl (hb hby at_414) rfl ?_
              refine own_iconst X1232 hx 417 rfl (hb hby at_416) (1 : Int32) rfl ?_
              refine own_iadd X1232 hx 418 rfl (hb hby at_417) (3 : Int32) rfl ?_
              refine own_ldD X1232 hx hZ e1232 f1237 ⟨by decide, by decide⟩ e1 rfl 419 rfl (hb hby at_418) ?_
              refine own_dload X1232 hx 421 rfl (hb hby at_419) rfl ?_
              refine own_dcmp X1232 hx 422 rfl (hb hby at_421) _ rfl ?_
              refine own_ifNo X1232 hx 425 rfl (hb hby at_422) ((if0 _ _).trans (flt (own_cmp_le nn1 hd (Int.not_lt.mp hc1267) .g)).2.2.1) ?_
              refine own_iinc X1232 hx 428 rfl (hb hby at_425) rfl #[.val (.int i0), .val (.int i1), .val (.int i2), .val (.double (9218868437227405312 : UInt64)), .second, .val (.int (2 : Int32)), .val (.int (1 : Int32)), .val (.int (own_k i0)), .val (.int f8), .val (.int (own_a0 i1)), .val (.int (own_a1 i1)), .val (.int (own_a2 i1)), .val (.double d), .second, .val (.ref b365), .val (.ref b369), .val (.int (2 : Int32)), .val (.ref b1100), .val (.ref b1164), .val (.int (0 : Int32)), .val (.int (2 : Int32)), .unset] rfl ?_
              refine own_iload X1232 hx 430 rfl (hb hby at_428) rfl ?_
              refine own_iconst X1232 hx 431 rfl (hb hby at_430) (3 : Int32) rfl ?_
              refine own_icmpYes X1232 hx 450 (hb hby at_431) (by decide) (by decide) rfl ?_
              refine own_iloadN X1232 hx 451 rfl (hb hby at_450) rfl ?_
              refine own_dload X1232 hx 453 rfl (hb hby at_451) rfl ?_
              refine own_iload X1232 hx 455 rfl (hb hby at_453) rfl ?_
              refine own_iload X1232 hx 457 rfl (hb hby at_455) rfl ?_
              refine own_aload X1232 hx 459 rfl (hb hby at_457) rfl rfl ?_
              refine own_aload X1232 hx 461 rfl (hb hby at_459) rfl rfl ?_
              refine own_callS X1232 hx hZ (y := (⟨"com/example/outpost/outpost/model/Distances", "keepNearer", "(IDII[D[I)Z"⟩ : MethodName)) hown (own_hw hw 9 rfl) (own_hw hw 10 rfl) (by decide) (rm_keep_2_1_n l Z a0 hw [] i2 d b1100 b1164 k1100 k1164 (4652007308841189376 : UInt64) (4652016104934211584 : UInt64) e0 e1 (4652042493213278208 : UInt64) (4652051289306300416 : UInt64) (10 : Int32) (11 : Int32) (12 : Int32) (13 : Int32) (14 : Int32) (15 : Int32) h1232 n0 z1241 f1239 f1233 ne1167 ge1103 ge1168 (own_cmp_ge hd nn1 (Int.not_lt.mp hc1267) .g)) (own_hw hw 12 rfl) (own_hw hw 11 rfl) (by decide) e1232 (by rw [hml]; rfl) [(.int i2), (.double d), (.int (1 : Int32)), (.int (2 : Int32)), (.ref b1100), (.ref b1164)] 0 (by decide) (Nat.le_of_eq rfl) (by decide) (by decide) (lenOf own_pd2 rfl) rfl rfl 464 rfl (hb hby at_461) fun v1291 T1291 Lc1291 X1291 hQ1291 => ?_
              obtain ⟨rfl, Nq1291, Kq1291, fu1291, fw1291⟩ := hQ1291
              have N1292 := Fr.app N1242 Nq1291
              have f1293 := f1234.keep Kq1291
              have f1294 := f1235.keep Kq1291
              have f1295 := f1236.keep Kq1291 (ninS ne1102 (ninS ne1166 nin0))
              have f1296 := f1237.keep Kq1291 (ninS ne1101 (ninS ne1165 nin0))
              have f1297 := f1238.keep Kq1291
              have f1299 := f1240.keep Kq1291
              have z1301 := Nat.le_trans z1241 Kq1291.1
              show own_Go _ _ _ _ _ (State.setTop _ (mkF _ 464 _ [(.int (0 : Int32))]))
              refine own_istore X1291 hx 466 rfl (hb hby at_464) #[.val (.int i0), .val (.int i1), .val (.int i2), .val (.double (9218868437227405312 : UInt64)), .second, .val (.int (2 : Int32)), .val (.int (1 : Int32)), .val (.int (own_k i0)), .val (.int f8), .val (.int (own_a0 i1)), .val (.int (own_a1 i1)), .val (.int (own_a2 i1)), .val (.double d), .second, .val (.ref b365), .val (.ref b369), .val (.int (2 : Int32)), .val (.ref b1100), .val (.ref b1164), .val (.int (0 : Int32)), .val (.int (2 : Int32)), .val (.int (0 : Int32))] rfl ?_
              refine own_iload X1291 hx 468 rfl (hb hby at_466) rfl ?_
              refine own_iload X1291 hx 470 rfl (hb hby at_468) rfl ?_
              refine own_icmpNo X1291 hx 473 rfl (hb hby at_470) (by decide) ?_
              refine own_iconst X1291 hx 474 rfl (hb hby at_473) (0 : Int32) rfl ?_
              refine own_iload X1291 hx 476 rfl (hb hby at_474) rfl ?_
              refine own_iload X1291 hx 478 rfl (hb hby at_476) rfl ?_
              refine own_iload X1291 hx 480 rfl (hb hby at_478) rfl ?_
              refine own_iload X1291 hx 482 rfl (hb hby at_480) rfl ?_
              refine own_dload X1291 hx 484 rfl (hb hby at_482) rfl ?_
              refine own_iloadN X1291 hx 485 rfl (hb hby at_484) rfl ?_
              refine own_aload X1291 hx 487 rfl (hb hby at_485) rfl rfl ?_
              refine own_aload X1291 hx 489 rfl (hb hby at_487) rfl rfl ?_
              refine own_aload X1291 hx 491 rfl (hb hby at_489) rfl rfl ?_
              refine own_aload X1291 hx 493 rfl (hb hby at_491) rfl rfl ?_
              refine own_callS X1291 hx hZ (y := (⟨"com/example/outpost/outpost/model/DistancesKeepNearerPinLaw", "same", "(IIIIZDI[D[I[D[I)Z"⟩ : MethodName)) hown (own_hw hw 13 rfl) (own_hw hw 14 rfl) (by decide) (rm_same_A1 l Z a0 hw [] (0 : Int32) (2 : Int32) (2 : Int32) (2 : Int32) d i2 b365 b369 b1100 b1164 k365 k369 k1100 k1164 [(.double (4652007308841189376 : UInt64)), (.double (4652016104934211584 : UInt64)), (.double e0), (.double e1), (.double (4652042493213278208 : UInt64)), (.double (4652051289306300416 : UInt64))] [(.int (10 : Int32)), (.int (11 : Int32)), (.int (12 : Int32)), (.int (13 : Int32)), (.int (14 : Int32)), (.int (15 : Int32))] [(.double (4652007308841189376 : UInt64)), (.double (4652016104934211584 : UInt64)), (.double e0), (.double e1), (.double (4652042493213278208 : UInt64)), (.double (4652051289306300416 : UInt64))] [(.int (10 : Int32)), (.int (11 : Int32)), (.int (12 : Int32)), (.int (13 : Int32)), (.int (14 : Int32)), (.int (15 : Int32))] (4652007308841189376 : UInt64) (10 : Int32) T1291.heap n0 z1301 f1296 f1295 fu1291 fw1291 (by decide) rfl rfl (by decide) rfl rfl (own_self own_cst.1)) (own_hw hw 16 rfl) (own_hw hw 15 rfl) (by decide) rfl (by rw [hml]; rfl) [(.int (0 : Int32)), (.int (2 : Int32)), (.int (2 : Int32)), (.int (2 : Int32)), (.int (0 : Int32)), (.double d), (.int i2), (.ref b365), (.ref b369), (.ref b1100), (.ref b1164)] 0 (by decide) (Nat.le_of_eq rfl) (by decide) (by decide) (lenOf own_pd3 rfl) rfl rfl 496 rfl (hb hby at_493) fun v1302 T1302 Lc1302 X1302 hQ1302 => ?_
              obtain ⟨rfl, Nq1302, e1302⟩ := hQ1302
              have N1303 := Fr.app N1292 Nq1302
              show own_Go _ _ _ _ _ (State.setTop _ (mkF _ 496 _ [(.int (1 : Int32))]))
              refine own_ifNo X1302 hx 499 rfl (hb hby at_496) (by decide) ?_
              refine own_iconst X1302 hx 500 rfl (hb hby at_499) (1 : Int32) rfl ?_
              refine own_iload X1302 hx 502 rfl (hb hby at_500) rfl ?_
              refine own_iload X1302 hx 504 rfl (hb hby at_502) rfl ?_
              refine own_iload X1302 hx 506 rfl (hb hby at_504) rfl ?_
              refine own_iload X1302 hx 508 rfl (hb hby at_506) rfl ?_
              refine own_dload X1302 hx 510 rfl (hb hby at_508) rfl ?_
              refine own_iloadN X1302 hx 511 rfl (hb hby at_510) rfl ?_
              refine own_aload X1302 hx 513 rfl (hb hby at_511) rfl rfl ?_
              refine own_aload X1302 hx 515 rfl (hb hby at_513) rfl rfl ?_
              refine own_aload X1302 hx 517 rfl (hb hby at_515) rfl rfl ?_
              refine own_aload X1302 hx 519 rfl (hb hby at_517) rfl rfl ?_
              refine own_callS X1302 hx hZ (y := (⟨"com/example/outpost/outpost/model/DistancesKeepNearerPinLaw", "same", "(IIIIZDI[D[I[D[I)Z"⟩ : MethodName)) hown (own_hw hw 13 rfl) (own_hw hw 14 rfl) (by decide) (rm_same_A1 l Z a0 hw [] (1 : Int32) (2 : Int32) (2 : Int32) (2 : Int32) d i2 b365 b369 b1100 b1164 k365 k369 k1100 k1164 [(.double (4652007308841189376 : UInt64)), (.double (4652016104934211584 : UInt64)), (.double e0), (.double e1), (.double (4652042493213278208 : UInt64)), (.double (4652051289306300416 : UInt64))] [(.int (10 : Int32)), (.int (11 : Int32)), (.int (12 : Int32)), (.int (13 : Int32)), (.int (14 : Int32)), (.int (15 : Int32))] [(.double (4652007308841189376 : UInt64)), (.double (4652016104934211584 : UInt64)), (.double e0), (.double e1), (.double (4652042493213278208 : UInt64)), (.double (4652051289306300416 : UInt64))] [(.int (10 : Int32)), (.int (11 : Int32)), (.int (12 : Int32)), (.int (13 : Int32)), (.int (14 : Int32)), (.int (15 : Int32))] (4652016104934211584 : UInt64) (11 : Int32) T1291.heap n0 z1301 f1296 f1295 fu1291 fw1291 (by decide) rfl rfl (by decide) rfl rfl (own_self own_cst.2.1)) (own_hw hw 16 rfl) (own_hw hw 15 rfl) (by decide) e1302 (by rw [hml]; rfl) [(.int (1 : Int32)), (.int (2 : Int32)), (.int (2 : Int32)), (.int (2 : Int32)), (.int (0 : Int32)), (.double d), (.int i2), (.ref b365), (.ref b369), (.ref b1100), (.ref b1164)] 0 (by decide) (Nat.le_of_eq rfl) (by decide) (by decide) (lenOf own_pd3 rfl) rfl rfl 522 rfl (hb hby at_519) fun v1304 T1304 Lc1304 X1304 hQ1304 => ?_
              obtain ⟨rfl, Nq1304, e1304⟩ := hQ1304
              have N1305 := Fr.app N1303 Nq1304
              show own_Go _ _ _ _ _ (State.setTop _ (mkF _ 522 _ [(.int (1 : Int32))]))
              refine own_ifNo X1304 hx 525 rfl (hb hby at_522) (by decide) ?_
              refine own_iconst X1304 hx 526 rfl (hb hby at_525) (2 : Int32) rfl ?_
              refine own_iload X1304 hx 528 rfl (hb hby at_526) rfl ?_
              refine own_iload X1304 hx 530 rfl (hb hby at_528) rfl ?_
              refine own_iload X1304 hx 532 rfl (hb hby at_530) rfl ?_
              refine own_iload X1304 hx 534 rfl (hb hby at_532) rfl ?_
              refine own_dload X1304 hx 536 rfl (hb hby at_534) rfl ?_
              refine own_iloadN X1304 hx 537 rfl (hb hby at_536) rfl ?_
              refine own_aload X1304 hx 539 rfl (hb hby at_537) rfl rfl ?_
              refine own_aload X1304 hx 541 rfl (hb hby at_539) rfl rfl ?_
              refine own_aload X1304 hx 543 rfl (hb hby at_541) rfl rfl ?_
              refine own_aload X1304 hx 545 rfl (hb hby at_543) rfl rfl ?_
              refine own_callS X1304 hx hZ (y := (⟨"com/example/outpost/outpost/model/DistancesKeepNearerPinLaw", "same", "(IIIIZDI[D[I[D[I)Z"⟩ : MethodName)) hown (own_hw hw 13 rfl) (own_hw hw 14 rfl) (by decide) (rm_same_A1 l Z a0 hw [] (2 : Int32) (2 : Int32) (2 : Int32) (2 : Int32) d i2 b365 b369 b1100 b1164 k365 k369 k1100 k1164 [(.double (4652007308841189376 : UInt64)), (.double (4652016104934211584 : UInt64)), (.double e0), (.double e1), (.double (4652042493213278208 : UInt64)), (.double (4652051289306300416 : UInt64))] [(.int (10 : Int32)), (.int (11 : Int32)), (.int (12 : Int32)), (.int (13 : Int32)), (.int (14 : Int32)), (.int (15 : Int32))] [(.double (4652007308841189376 : UInt64)), (.double (4652016104934211584 : UInt64)), (.double e0), (.double e1), (.double (4652042493213278208 : UInt64)), (.double (4652051289306300416 : UInt64))] [(.int (10 : Int32)), (.int (11 : Int32)), (.int (12 : Int32)), (.int (13 : Int32)), (.int (14 : Int32)), (.int (15 : Int32))] e0 (12 : Int32) T1291.heap n0 z1301 f1296 f1295 fu1291 fw1291 (by decide) rfl rfl (by decide) rfl rfl (own_self nn0)) (own_hw hw 16 rfl) (own_hw hw 15 rfl) (by decide) e1304 (by rw [hml]; rfl) [(.int (2 : Int32)), (.int (2 : Int32)), (.int (2 : Int32)), (.int (2 : Int32)), (.int (0 : Int32)), (.double d), (.int i2), (.ref b365), (.ref b369), (.ref b1100), (.ref b1164)] 0 (by decide) (Nat.le_of_eq rfl) (by decide) (by decide) (lenOf own_pd3 rfl) rfl rfl 548 rfl (hb hby at_545) fun v1306 T1306 Lc1306 X1306 hQ1306 => ?_
              obtain ⟨rfl, Nq1306, e1306⟩ := hQ1306
              have N1307 := Fr.app N1305 Nq1306
              show own_Go _ _ _ _ _ (State.setTop _ (mkF _ 548 _ [(.int (1 : Int32))]))
              refine own_ifNo X1306 hx 551 rfl (hb hby at_548) (by decide) ?_
              refine own_iconst X1306 hx 552 rfl (hb hby at_551) (3 : Int32) rfl ?_
              refine own_iload X1306 hx 554 rfl (hb hby at_552) rfl ?_
              refine own_iload X1306 hx 556 rfl (hb hby at_554) rfl ?_
              refine own_iload X1306 hx 558 rfl (hb hby at_556) rfl ?_
              refine own_iload X1306 hx 560 rfl (hb hby at_558) rfl ?_
              refine own_dload X1306 hx 562 rfl (hb hby at_560) rfl ?_
              refine own_iloadN X1306 hx 563 rfl (hb hby at_562) rfl ?_
              refine own_aload X1306 hx 565 rfl (hb hby at_563) rfl rfl ?_
              refine own_aload X1306 hx 567 rfl (hb hby at_565) rfl rfl ?_
              refine own_aload X1306 hx 569 rfl (hb hby at_567) rfl rfl ?_
              refine own_aload X1306 hx 571 rfl (hb hby at_569) rfl rfl ?_
              refine own_callS X1306 hx hZ (y := (⟨"com/example/outpost/outpost/model/DistancesKeepNearerPinLaw", "same", "(IIIIZDI[D[I[D[I)Z"⟩ : MethodName)) hown (own_hw hw 13 rfl) (own_hw hw 14 rfl) (by decide) (rm_same_A1 l Z a0 hw [] (3 : Int32) (2 : Int32) (2 : Int32) (2 : Int32) d i2 b365 b369 b1100 b1164 k365 k369 k1100 k1164 [(.double (4652007308841189376 : UInt64)), (.double (4652016104934211584 : UInt64)), (.double e0), (.double e1), (.double (4652042493213278208 : UInt64)), (.double (4652051289306300416 : UInt64))] [(.int (10 : Int32)), (.int (11 : Int32)), (.int (12 : Int32)), (.int (13 : Int32)), (.int (14 : Int32)), (.int (15 : Int32))] [(.double (4652007308841189376 : UInt64)), (.double (4652016104934211584 : UInt64)), (.double e0), (.double e1), (.double (4652042493213278208 : UInt64)), (.double (4652051289306300416 : UInt64))] [(.int (10 : Int32)), (.int (11 : Int32)), (.int (12 : Int32)), (.int (13 : Int32)), (.int (14 : Int32)), (.int (15 : Int32))] e1 (13 : Int32) T1291.heap n0 z1301 f1296 f1295 fu1291 fw1291 (by decide) rfl rfl (by decide) rfl rfl (own_self nn1)) (own_hw hw 16 rfl) (own_hw hw 15 rfl) (by decide) e1306 (by rw [hml]; rfl) [(.int (3 : Int32)), (.int (2 : Int32)), (.int (2 : Int32)), (.int (2 : Int32)), (.int (0 : Int32)), (.double d), (.int i2), (.ref b365), (.ref b369), (.ref b1100), (.ref b1164)] 0 (by decide) (Nat.le_of_eq rfl) (by decide) (by decide) (lenOf own_pd3 rfl) rfl rfl 574 rfl (hb hby at_571) fun v1308 T1308 Lc1308 X1308 hQ1308 => ?_
              obtain ⟨rfl, Nq1308, e1308⟩ := hQ1308
              have N1309 := Fr.app N1307 Nq1308
              show own_Go _ _ _ _ _ (State.setTop _ (mkF _ 574 _ [(.int (1 : Int32))]))
              refine own_ifNo X1308 hx 577 rfl (hb hby at_574) (by decide) ?_
              refine own_iconst X1308 hx 578 rfl (hb hby at_577) (4 : Int32) rfl ?_
              refine own_iload X1308 hx 580 rfl (hb hby at_578) rfl ?_
              refine own_iload X1308 hx 582 rfl (hb hby at_580) rfl ?_
              refine own_iload X1308 hx 584 rfl (hb hby at_582) rfl ?_
              refine own_iload X1308 hx 586 rfl (hb hby at_584) rfl ?_
              refine own_dload X1308 hx 588 rfl (hb hby at_586) rfl ?_
              refine own_iloadN X1308 hx 589 rfl (hb hby at_588) rfl ?_
              refine own_aload X1308 hx 591 rfl (hb hby at_589) rfl rfl ?_
              refine own_aload X1308 hx 593 rfl (hb hby at_591) rfl rfl ?_
              refine own_aload X1308 hx 595 rfl (hb hby at_593) rfl rfl ?_
              refine own_aload X1308 hx 597 rfl (hb hby at_595) rfl rfl ?_
              refine own_callS X1308 hx hZ (y := (⟨"com/example/outpost/outpost/model/DistancesKeepNearerPinLaw", "same", "(IIIIZDI[D[I[D[I)Z"⟩ : MethodName)) hown (own_hw hw 13 rfl) (own_hw hw 14 rfl) (by decide) (rm_same_A1 l Z a0 hw [] (4 : Int32) (2 : Int32) (2 : Int32) (2 : Int32) d i2 b365 b369 b1100 b1164 k365 k369 k1100 k1164 [(.double (4652007308841189376 : UInt64)), (.double (4652016104934211584 : UInt64)), (.double e0), (.double e1), (.double (4652042493213278208 : UInt64)), (.double (4652051289306300416 : UInt64))] [(.int (10 : Int32)), (.int (11 : Int32)), (.int (12 : Int32)), (.int (13 : Int32)), (.int (14 : Int32)), (.int (15 : Int32))] [(.double (4652007308841189376 : UInt64)), (.double (4652016104934211584 : UInt64)), (.double e0), (.double e1), (.double (4652042493213278208 : UInt64)), (.double (4652051289306300416 : UInt64))] [(.int (10 : Int32)), (.int (11 : Int32)), (.int (12 : Int32)), (.int (13 : Int32)), (.int (14 : Int32)), (.int (15 : Int32))] (4652042493213278208 : UInt64) (14 : Int32) T1291.heap n0 z1301 f1296 f1295 fu1291 fw1291 (by decide) rfl rfl (by decide) rfl rfl (own_self own_cst.2.2.2.2.1)) (own_hw hw 16 rfl) (own_hw hw 15 rfl) (by decide) e1308 (by rw [hml]; rfl) [(.int (4 : Int32)), (.int (2 : Int32)), (.int (2 : Int32)), (.int (2 : Int32)), (.int (0 : Int32)), (.double d), (.int i2), (.ref b365), (.ref b369), (.ref b1100), (.ref b1164)] 0 (by decide) (Nat.le_of_eq rfl) (by decide) (by decide) (lenOf own_pd3 rfl) rfl rfl 600 rfl (hb hby at_597) fun v1310 T1310 Lc1310 X1310 hQ1310 => ?_
              obtain ⟨rfl, Nq1310, e1310⟩ := hQ1310
              have N1311 := Fr.app N1309 Nq1310
              show own_Go _ _ _ _ _ (State.setTop _ (mkF _ 600 _ [(.int (1 : Int32))]))
              refine own_ifNo X1310 hx 603 rfl (hb hby at_600) (by decide) ?_
              refine own_iconst X1310 hx 604 rfl (hb hby at_603) (5 : Int32) rfl ?_
              refine own_iload X1310 hx 606 rfl (hb hby at_604) rfl ?_
              refine own_iload X1310 hx 608 rfl (hb hby at_606) rfl ?_
              refine own_iload X1310 hx 610 rfl (hb hby at_608) rfl ?_
              refine own_iload X1310 hx 612 rfl (hb hby at_610) rfl ?_
              refine own_dload X1310 hx 614 rfl (hb hby at_612) rfl ?_
              refine own_iloadN X1310 hx 615 rfl (hb hby at_614) rfl ?_
              refine own_aload X1310 hx 617 rfl (hb hby at_615) rfl rfl ?_
              refine own_aload X1310 hx 619 rfl (hb hby at_617) rfl rfl ?_
              refine own_aload X1310 hx 621 rfl (hb hby at_619) rfl rfl ?_
              refine own_aload X1310 hx 623 rfl (hb hby at_621) rfl rfl ?_
              refine own_callS X1310 hx hZ (y := (⟨"com/example/outpost/outpost/model/DistancesKeepNearerPinLaw", "same", "(IIIIZDI[D[I[D[I)Z"⟩ : MethodName)) hown (own_hw hw 13 rfl) (own_hw hw 14 rfl) (by decide) (rm_same_A1 l Z a0 hw [] (5 : Int32) (2 : Int32) (2 : Int32) (2 : Int32) d i2 b365 b369 b1100 b1164 k365 k369 k1100 k1164 [(.double (4652007308841189376 : UInt64)), (.double (4652016104934211584 : UInt64)), (.double e0), (.double e1), (.double (4652042493213278208 : UInt64)), (.double (4652051289306300416 : UInt64))] [(.int (10 : Int32)), (.int (11 : Int32)), (.int (12 : Int32)), (.int (13 : Int32)), (.int (14 : Int32)), (.int (15 : Int32))] [(.double (4652007308841189376 : UInt64)), (.double (4652016104934211584 : UInt64)), (.double e0), (.double e1), (.double (4652042493213278208 : UInt64)), (.double (4652051289306300416 : UInt64))] [(.int (10 : Int32)), (.int (11 : Int32)), (.int (12 : Int32)), (.int (13 : Int32)), (.int (14 : Int32)), (.int (15 : Int32))] (4652051289306300416 : UInt64) (15 : Int32) T1291.heap n0 z1301 f1296 f1295 fu1291 fw1291 (by decide) rfl rfl (by decide) rfl rfl (own_self own_cst.2.2.2.2.2)) (own_hw hw 16 rfl) (own_hw hw 15 rfl) (by decide) e1310 (by rw [hml]; rfl) [(.int (5 : Int32)), (.int (2 : Int32)), (.int (2 : Int32)), (.int (2 : Int32)), (.int (0 : Int32)), (.double d), (.int i2), (.ref b365), (.ref b369), (.ref b1100), (.ref b1164)] 0 (by decide) (Nat.le_of_eq rfl) (by decide) (by decide) (lenOf own_pd3 rfl) rfl rfl 626 rfl (hb hby at_623) fun v1312 T1312 Lc1312 X1312 hQ1312 => ?_
              obtain ⟨rfl, Nq1312, e1312⟩ := hQ1312
              have N1313 := Fr.app N1311 Nq1312
              show own_Go _ _ _ _ _ (State.setTop _ (mkF _ 626 _ [(.int (1 : Int32))]))
              refine own_ifNo X1312 hx 629 rfl (hb hby at_626) (by decide) ?_
              refine own_iconst X1312 hx 630 rfl (hb hby at_629) (1 : Int32) rfl ?_
              refine own_goto X1312 hx 634 (hb hby at_630) (by decide) rfl ?_
              refine own_ret X1312 (some (.int (1 : Int32))) (fun h => by rw [Bd.returns] at h; cases h) Bd.notSynchronized (by decide) (by decide) ?_ (fun fs hr => retN X1312 hx (t := .boolean) Bd.returns (by simp) (hb hby at_634) hr)
              show Q_rm0 Z i0 i1 i2 h0 n0 _ T1312.heap _
              rw [e1312]
              exact ⟨rfl, N1313⟩
        by_cases hc1314 : (1 : Int32) < (own_k i0)
        ·
          refine own_icmpYes X1086 hx 228 (hb hby at_221) (tlt hc1314).1 (by decide) rfl ?_
          refine own_iload X1086 hx 230 rfl (hb hby at_228) rfl ?_
          refine own_i2d X1086 hx 231 rfl (hb hby at_230) _ rfl ?_
          exact J231 _ (if_pos hc1314).symm
        ·
          refine own_icmpNo X1086 hx 224 rfl (hb hby at_221) (flt hc1314).1 ?_
          refine own_dloadN X1086 hx 225 rfl (hb hby at_224) rfl ?_
          refine own_goto X1086 hx 231 (hb hby at_225) (by decide) rfl ?_
          exact J231 _ (if_neg hc1314).symm
      by_cases hc1315 : (0 : Int32) < (own_k i0)
      ·
        refine own_icmpYes X453 hx 202 (hb hby at_195) (tlt hc1315).1 (by decide) rfl ?_
        refine own_iload X453 hx 204 rfl (hb hby at_202) rfl ?_
        refine own_i2d X453 hx 205 rfl (hb hby at_204) _ rfl ?_
        exact J205 _ (if_pos hc1315).symm
      ·
        refine own_icmpNo X453 hx 198 rfl (hb hby at_195) (flt hc1315).1 ?_
        refine own_dloadN X453 hx 199 rfl (hb hby at_198) rfl ?_
        refine own_goto X453 hx 205 (hb hby at_199) (by decide) rfl ?_
        exact J205 _ (if_neg hc1315).symm
    ·
      show own_Go _ _ _ _ _ (State.setTop _ (mkF _ 181 #[.val (.int i0), .val (.int i1), .val (.int i2), .val (.double (9218868437227405312 : UInt64)), .second, .val (.int (3 : Int32)), .val (.int (0 : Int32)), .val (.int (own_k i0)), .val (.int f8), .val (.int (own_a0 i1)), .val (.int (own_a1 i1)), .val (.int (own_a2 i1)), .val (.double d), .second, .val (.ref b365), .val (.ref b369), .unset, .unset, .unset, .unset, .unset, .unset] []))
      refine own_iload X453 hx 183 rfl (hb hby at_181) rfl ?_
      refine own_iload X453 hx 185 rfl (hb hby at_183) rfl ?_
      refine own_imul X453 hx 186 rfl (hb hby at_185) (0 : Int32) rfl ?_
      refine own_istore X453 hx 188 rfl (hb hby at_186) #[.val (.int i0), .val (.int i1), .val (.int i2), .val (.double (9218868437227405312 : UInt64)), .second, .val (.int (3 : Int32)), .val (.int (0 : Int32)), .val (.int (own_k i0)), .val (.int f8), .val (.int (own_a0 i1)), .val (.int (own_a1 i1)), .val (.int (own_a2 i1)), .val (.double d), .second, .val (.ref b365), .val (.ref b369), .val (.int (0 : Int32)), .unset, .unset, .unset, .unset, .unset] rfl ?_
      refine own_aload X453 hx 190 rfl (hb hby at_188) rfl rfl ?_
      refine own_iload X453 hx 192 rfl (hb hby at_190) rfl ?_
      refine own_iconst X453 hx 193 rfl (hb hby at_192) (0 : Int32) rfl ?_
      refine own_iload X453 hx 195 rfl (hb hby at_193) rfl ?_
      have J205 : ∀ (e0 : UInt64), (e0 = (own_v (0 : Int32) (own_k i0) (own_a0 i1))) → own_Go p e below (fun o u L => FrameEnd s o u L room_1.cells room_1.slots) (Q_rm0 Z i0 i1 i2 h0 n0) (T453.setTop (mkF m 205 #[.val (.int i0), .val (.int i1), .val (.int i2), .val (.double (9218868437227405312 : UInt64)), .second, .val (.int (3 : Int32)), .val (.int (0 : Int32)), .val (.int (own_k i0)), .val (.int f8), .val (.int (own_a0 i1)), .val (.int (own_a1 i1)), .val (.int (own_a2 i1)), .val (.double d), .second, .val (.ref b365), .val (.ref b369), .val (.int (0 : Int32)), .unset, .unset, .unset, .unset, .unset] [(.double e0), (.int (0 : Int32)), (.ref b365)])) := by
        intro e0 he0
        have nn0 : FP.Core.val64 e0 ≠ .nan := by rw [he0]; exact own_v_nan _ _ _
        show own_Go _ _ _ _ _ (State.setTop _ (mkF _ 205 _ [(.double e0), (.int (0 : Int32)), (.ref b365)]))
        refine own_stD X453 hx hZ e453 f457 ⟨by decide, by decide⟩ 0 rfl (Nat.le_of_ble_eq_true rfl) [(.double e0), (.double (4652016104934211584 : UInt64)), (.double (4652024901027233792 : UInt64)), (.double (4652033697120256000 : UInt64)), (.double (4652042493213278208 : UInt64)), (.double (4652051289306300416 : UInt64))] rfl 206 rfl (hb hby at_205) fun T1316 h1316 X1316 e1316 W1316 f1317 => ?_
        have f1318 := f455.wr W1316
        have f1319 := f456.wr W1316
        have f1320 := f454.other W1316 (Ne.symm ne370)
        have z1321 := Nat.le_trans z458 (Keep.of_wr W1316).1
        have N1322 := Fr.snoc X1316 N459 ge366
        refine own_iload X1316 hx 208 rfl (hb hby at_206) rfl ?_
        refine own_iconst X1316 hx 209 rfl (hb hby at_208) (2 : Int32) rfl ?_
        refine own_icmpNo X1316 hx 212 rfl (hb hby at_209) (by decide) ?_
        refine own_aload X1316 hx 214 rfl (hb hby at_212) rfl rfl ?_
        refine own_iload X1316 hx 216 rfl (hb hby at_214) rfl ?_
        refine own_iconst X1316 hx 217 rfl (hb hby at_216) (1 : Int32) rfl ?_
        refine own_iadd X1316 hx 218 rfl (hb hby at_217) (1 : Int32) rfl ?_
        refine own_iconst X1316 hx 219 rfl (hb hby at_218) (1 : Int32) rfl ?_
        refine own_iload X1316 hx 221 rfl (hb hby at_219) rfl ?_
        have J231 : ∀ (e1 : UInt64), (e1 = (own_v (1 : Int32) (own_k i0) (own_a1 i1))) → own_Go p e below (fun o u L => FrameEnd s o u L room_1.cells room_1.slots) (Q_rm0 Z i0 i1 i2 h0 n0) (T1316.setTop (mkF m 231 #[.val (.int i0), .val (.int i1), .val (.int i2), .val (.double (9218868437227405312 : UInt64)), .second, .val (.int (3 : Int32)), .val (.int (0 : Int32)), .val (.int (own_k i0)), .val (.int f8), .val (.int (own_a0 i1)), .val (.int (own_a1 i1)), .val (.int (own_a2 i1)), .val (.double d), .second, .val (.ref b365), .val (.ref b369), .val (.int (0 : Int32)), .unset, .unset, .unset, .unset, .unset] [(.double e1), (.int (1 : Int32)), (.ref b365)])) := by
          intro e1 he1
          have nn1 : FP.Core.val64 e1 ≠ .nan := by rw [he1]; exact own_v_nan _ _ _
          have la1 : own_z e0 ≤ own_z e1 := by rw [he0, he1]; exact own_v_le (by decide) (own_a_rng i1).2.1
          show own_Go _ _ _ _ _ (State.setTop _ (mkF _ 231 _ [(.double e1), (.int (1 : Int32)), (.ref b365)]))
          refine own_stD X1316 hx hZ e1316 f1317 ⟨by decide, by decide⟩ 1 rfl (Nat.le_of_ble_eq_true rfl) [(.double e0), (.double e1), (.double (4652024901027233792 : UInt64)), (.double (4652033697120256000 : UInt64)), (.double (4652042493213278208 : UInt64)), (.double (4652051289306300416 : UInt64))] rfl 232 rfl (hb hby at_231) fun T1323 h1323 X1323 e1323 W1323 f1324 => ?_
          have f1325 := f1318.wr W1323
          have f1326 := f1319.wr W1323
          have f1327 := f1320.other W1323 (Ne.symm ne370)
          have z1328 := Nat.le_trans z1321 (Keep.of_wr W1323).1
          have N1329 := Fr.snoc X1323 N1322 ge366
          refine own_iload X1323 hx 234 rfl (hb hby at_232) rfl ?_
          refine own_iconst X1323 hx 235 rfl (hb hby at_234) (3 : Int32) rfl ?_
          refine own_icmpNo X1323 hx 238 rfl (hb hby at_235) (by decide) ?_
          refine own_aload X1323 hx 240 rfl (hb hby at_238) rfl rfl ?_
          refine own_iload X1323 hx 242 rfl (hb hby at_240) rfl ?_
          refine own_iconst X1323 hx 243 rfl (hb hby at_242) (2 : Int32) rfl ?_
          refine own_iadd X1323 hx 244 rfl (hb hby at_243) (2 : Int32) rfl ?_
          refine own_iconst X1323 hx 245 rfl (hb hby at_244) (2 : Int32) rfl ?_
          refine own_iload X1323 hx 247 rfl (hb hby at_245) rfl ?_
          have J257 : ∀ (e2 : UInt64), (e2 = (own_v (2 : Int32) (own_k i0) (own_a2 i1))) → own_Go p e below (fun o u L => FrameEnd s o u L room_1.cells room_1.slots) (Q_rm0 Z i0 i1 i2 h0 n0) (T1323.setTop (mkF m 257 #[.val (.int i0), .val (.int i1), .val (.int i2), .val (.double (9218868437227405312 : UInt64)), .second, .val (.int (3 : Int32)), .val (.int (0 : Int32)), .val (.int (own_k i0)), .val (.int f8), .val (.int (own_a0 i1)), .val (.int (own_a1 i1)), .val (.int (own_a2 i1)), .val (.double d), .second, .val (.ref b365), .val (.ref b369), .val (.int (0 : Int32)), .unset, .unset, .unset, .unset, .unset] [(.double e2), (.int (2 : Int32)), (.ref b365)])) := by
            intro e2 he2
            have nn2 : FP.Core.val64 e2 ≠ .nan := by rw [he2]; exact own_v_nan _ _ _
            have la2 : own_z e1 ≤ own_z e2 := by rw [he1, he2]; exact own_v_le (by decide) (own_a_rng i1).2.2.1
            show own_Go _ _ _ _ _ (State.setTop _ (mkF _ 257 _ [(.double e2), (.int (2 : Int32)), (.ref b365)]))
            refine own_stD X1323 hx hZ e1323 f1324 ⟨by decide, by decide⟩ 2 rfl (Nat.le_of_ble_eq_true rfl) [(.double e0), (.double e1), (.double e2), (.double (4652033697120256000 : UInt64)), (.double (4652042493213278208 : UInt64)), (.double (4652051289306300416 : UInt64))] rfl 258 rfl (hb hby at_257) fun T1330 h1330 X1330 e1330 W1330 f1331 => ?_
            have f1332 := f1325.wr W1330
            have f1333 := f1326.wr W1330
            have f1334 := f1327.other W1330 (Ne.symm ne370)
            have z1335 := Nat.le_trans z1328 (Keep.of_wr W1330).1
            have N1336 := Fr.snoc X1330 N1329 ge366
            refine own_bipush X1330 hx 260 rfl (hb hby at_258) (6 : Int32) rfl ?_
            refine own_newA X1330 hx hZ (own_hw hw 1 rfl) e1330 262 rfl (hb hby at_260) (by decide) 6 (by decide) (by decide) (by decide) (by decide) "[D" (by decide) fun T1337 h1337 k1337 b1337 g1337 X1337 e1337 E1337 A1337 C1337 => ?_
            have ne1338 : b365 ≠ b1337 := Nat.ne_of_lt (Nat.lt_of_lt_of_le f1332.lt (Nat.le_of_eq g1337.symm))
            have ne1339 : b369 ≠ b1337 := Nat.ne_of_lt (Nat.lt_of_lt_of_le f1333.lt (Nat.le_of_eq g1337.symm))
            have ge1340 : n0 ≤ b1337 := Nat.le_trans z1335 (Nat.le_of_eq g1337.symm)
            have f1341 := f1332.ext E1337
            have f1342 := f1333.ext E1337
            have f1343 := f1334.ext E1337
            have f1344 := f1331.ext E1337
            have z1345 := Nat.le_trans z1335 E1337.1
            have f1346 : Arv Z h1337 b1337 k1337 .double (6 : Int32) [(.double (0 : UInt64)), (.double (0 : UInt64)), (.double (0 : UInt64)), (.double (0 : UInt64)), (.double (0 : UInt64)), (.double (0 : UInt64))] (.double (0 : UInt64)) := (Arv.new A1337 (by decide)).pad (pad_rep [] (.double (0 : UInt64)) 6)
            refine own_astore X1337 hx 264 rfl (hb hby at_262) rfl #[.val (.int i0), .val (.int i1), .val (.int i2), .val (.double (9218868437227405312 : UInt64)), .second, .val (.int (3 : Int32)), .val (.int (0 : Int32)), .val (.int (own_k i0)), .val (.int f8), .val (.int (own_a0 i1)), .val (.int (own_a1 i1)), .val (.int (own_a2 i1)), .val (.double d), .second, .val (.ref b365), .val (.ref b369), .val (.int (0 : Int32)), .val (.ref b1337), .unset, .unset, .unset, .unset] rfl ?_
            refine own_aload X1337 hx 266 rfl (hb hby at_264) rfl rfl ?_
            refine own_iconst X1337 hx 267 rfl (hb hby at_266) (0 : Int32) rfl ?_
            refine own_aload X1337 hx 269 rfl (hb hby at_267) rfl rfl ?_
            refine own_iconst X1337 hx 270 rfl (hb hby at_269) (0 : Int32) rfl ?_
            refine own_ldD X1337 hx hZ e1337 f1344 ⟨by decide, by decide⟩ e0 rfl 271 rfl (hb hby at_270) ?_
            refine own_stD X1337 hx hZ e1337 f1346 ⟨by decide, by decide⟩ 0 rfl (Nat.le_of_ble_eq_true rfl) [(.double e0), (.double (0 : UInt64)), (.double (0 : UInt64)), (.double (0 : UInt64)), (.double (0 : UInt64)), (.double (0 : UInt64))] rfl 272 rfl (hb hby at_271) fun T1347 h1347 X1347 e1347 W1347 f1348 => ?_
            have f1349 := f1341.wr W1347
            have f1350 := f1342.wr W1347
            have f1351 := f1343.other W1347 ne1339
            have f1352 := f1344.other W1347 ne1338
            have f1353 := C1337.wr W1347
            have z1354 := Nat.le_trans z1345 (Keep.of_wr W1347).1
            have N1355 := Fr.snoc X1347 N1336 ge1340
            refine own_aload X1347 hx 274 rfl (hb hby at_272) rfl rfl ?_
            refine own_iconst X1347 hx 275 rfl (hb hby at_274) (1 : Int32) rfl ?_
            refine own_aload X1347 hx 277 rfl (hb hby at_275) rfl rfl ?_
            refine own_iconst X1347 hx 278 rfl (hb hby at_277) (1 : Int32) rfl ?_
            refine own_ldD X1347 hx hZ e1347 f1352 ⟨by decide, by decide⟩ e1 rfl 279 rfl (hb hby at_278) ?_
            refine own_stD X1347 hx hZ e1347 f1348 ⟨by decide, by decide⟩ 1 rfl (Nat.le_of_ble_eq_true rfl) [(.double e0), (.double e1), (.double (0 : UInt64)), (.double (0 : UInt64)), (.double (0 : UInt64)), (.double (0 : UInt64))] rfl 280 rfl (hb hby at_279) fun T1356 h1356 X1356 e1356 W1356 f1357 => ?_
            have f1358 := f1349.wr W1356
            have f1359 := f1350.wr W1356
            have f1360 := f1351.other W1356 ne1339
            have f1361 := f1352.other W1356 ne1338
            have f1362 := f1353.wr W1356
            have z1363 := Nat.le_trans z1354 (Keep.of_wr W1356).1
            have N1364 := Fr.snoc X1356 N1355 ge1340
            refine own_aload X1356 hx 282 rfl (hb hby at_280) rfl rfl ?_
            refine own_iconst X1356 hx 283 rfl (hb hby at_282) (2 : Int32) rfl ?_
            refine own_aload X1356 hx 285 rfl (hb hby at_283) rfl rfl ?_
            refine own_iconst X1356 hx 286 rfl (hb hby at_285) (2 : Int32) rfl ?_
            refine own_ldD X1356 hx hZ e1356 f1361 ⟨by decide, by decide⟩ e2 rfl 287 rfl (hb hby at_286) ?_
            refine own_stD X1356 hx hZ e1356 f1357 ⟨by decide, by decide⟩ 2 rfl (Nat.le_of_ble_eq_true rfl) [(.double e0), (.double e1), (.double e2), (.double (0 : UInt64)), (.double (0 : UInt64)), (.double (0 : UInt64))] rfl 288 rfl (hb hby at_287) fun T1365 h1365 X1365 e1365 W1365 f1366 => ?_
            have f1367 := f1358.wr W1365
            have f1368 := f1359.wr W1365
            have f1369 := f1360.other W1365 ne1339
            have f1370 := f1361.other W1365 ne1338
            have f1371 := f1362.wr W1365
            have z1372 := Nat.le_trans z1363 (Keep.of_wr W1365).1
            have N1373 := Fr.snoc X1365 N1364 ge1340
            refine own_aload X1365 hx 290 rfl (hb hby at_288) rfl rfl ?_
            refine own_iconst X1365 hx 291 rfl (hb hby at_290) (3 : Int32) rfl ?_
            refine own_aload X1365 hx 293 rfl (hb hby at_291) rfl rfl ?_
            refine own_iconst X1365 hx 294 rfl (hb hby at_293) (3 : Int32) rfl ?_
            refine own_ldD X1365 hx hZ e1365 f1370 ⟨by decide, by decide⟩ (4652033697120256000 : UInt64) rfl 295 rfl (hb hby at_294) ?_
            refine own_stD X1365 hx hZ e1365 f1366 ⟨by decide, by decide⟩ 3 rfl (Nat.le_of_ble_eq_true rfl) [(.double e0), (.double e1), (.double e2), (.double (4652033697120256000 : UInt64)), (.double (0 : UInt64)), (.double (0 : UInt64))] rfl 296 rfl (hb hby at_295) fun T1374 h1374 X1374 e1374 W1374 f1375 => ?_
            have f1376 := f1367.wr W1374
            have f1377 := f1368.wr W1374
            have f1378 := f1369.other W1374 ne1339
            have f1379 := f1370.other W1374 ne1338
            have f1380 := f1371.wr W1374
            have z1381 := Nat.le_trans z1372 (Keep.of_wr W1374).1
            have N1382 := Fr.snoc X1374 N1373 ge1340
            refine own_aload X1374 hx 298 rfl (hb hby at_296) rfl rfl ?_
            refine own_iconst X1374 hx 299 rfl (hb hby at_298) (4 : Int32) rfl ?_
            refine own_aload X1374 hx 301 rfl (hb hby at_299) rfl rfl ?_
            refine own_iconst X1374 hx 302 rfl (hb hby at_301) (4 : Int32) rfl ?_
            refine own_ldD X1374 hx hZ e1374 f1379 ⟨by decide, by decide⟩ (4652042493213278208 : UInt64) rfl 303 rfl (hb hby at_302) ?_
            refine own_stD X1374 hx hZ e1374 f1375 ⟨by decide, by decide⟩ 4 rfl (Nat.le_of_ble_eq_true rfl) [(.double e0), (.double e1), (.double e2), (.double (4652033697120256000 : UInt64)), (.double (4652042493213278208 : UInt64)), (.double (0 : UInt64))] rfl 304 rfl (hb hby at_303) fun T1383 h1383 X1383 e1383 W1383 f1384 => ?_
            have f1385 := f1376.wr W1383
            have f1386 := f1377.wr W1383
            have f1387 := f1378.other W1383 ne1339
            have f1388 := f1379.other W1383 ne1338
            have f1389 := f1380.wr W1383
            have z1390 := Nat.le_trans z1381 (Keep.of_wr W1383).1
            have N1391 := Fr.snoc X1383 N1382 ge1340
            refine own_aload X1383 hx 306 rfl (hb hby at_304) rfl rfl ?_
            refine own_iconst X1383 hx 307 rfl (hb hby at_306) (5 : Int32) rfl ?_
            refine own_aload X1383 hx 309 rfl (hb hby at_307) rfl rfl ?_
            refine own_iconst X1383 hx 310 rfl (hb hby at_309) (5 : Int32) rfl ?_
            refine own_ldD X1383 hx hZ e1383 f1388 ⟨by decide, by decide⟩ (4652051289306300416 : UInt64) rfl 311 rfl (hb hby at_310) ?_
            refine own_stD X1383 hx hZ e1383 f1384 ⟨by decide, by decide⟩ 5 rfl (Nat.le_of_ble_eq_true rfl) [(.double e0), (.double e1), (.double e2), (.double (4652033697120256000 : UInt64)), (.double (4652042493213278208 : UInt64)), (.double (4652051289306300416 : UInt64))] rfl 312 rfl (hb hby at_311) fun T1392 h1392 X1392 e1392 W1392 f1393 => ?_
            have f1394 := f1385.wr W1392
            have f1395 := f1386.wr W1392
            have f1396 := f1387.other W1392 ne1339
            have f1397 := f1388.other W1392 ne1338
            have f1398 := f1389.wr W1392
            have z1399 := Nat.le_trans z1390 (Keep.of_wr W1392).1
            have N1400 := Fr.snoc X1392 N1391 ge1340
            refine own_bipush X1392 hx 314 rfl (hb hby at_312) (6 : Int32) rfl ?_
            refine own_newA X1392 hx hZ (own_hw hw 2 rfl) e1392 316 rfl (hb hby at_314) (by decide) 6 (by decide) (by decide) (by decide) (by decide) "[I" (by decide) fun T1401 h1401 k1401 b1401 g1401 X1401 e1401 E1401 A1401 C1401 => ?_
            have ne1402 : b365 ≠ b1401 := Nat.ne_of_lt (Nat.lt_of_lt_of_le f1394.lt (Nat.le_of_eq g1401.symm))
            have ne1403 : b369 ≠ b1401 := Nat.ne_of_lt (Nat.lt_of_lt_of_le f1395.lt (Nat.le_of_eq g1401.symm))
            have ne1404 : b1337 ≠ b1401 := Nat.ne_of_lt (Nat.lt_of_lt_of_le f1398.lt (Nat.le_of_eq g1401.symm))
            have ge1405 : n0 ≤ b1401 := Nat.le_trans z1399 (Nat.le_of_eq g1401.symm)
            have f1406 := f1394.ext E1401
            have f1407 := f1395.ext E1401
            have f1408 := f1396.ext E1401
            have f1409 := f1397.ext E1401
            have f1410 := f1398.ext E1401
            have f1411 := f1393.ext E1401
            have z1412 := Nat.le_trans z1399 E1401.1
            have f1413 : Arv Z h1401 b1401 k1401 .int (6 : Int32) [(.int (0 : Int32)), (.int (0 : Int32)), (.int (0 : Int32)), (.int (0 : Int32)), (.int (0 : Int32)), (.int (0 : Int32))] (.int (0 : Int32)) := (Arv.new A1401 (by decide)).pad (pad_rep [] (.int (0 : Int32)) 6)
            refine own_astore X1401 hx 318 rfl (hb hby at_316) rfl #[.val (.int i0), .val (.int i1), .val (.int i2), .val (.double (9218868437227405312 : UInt64)), .second, .val (.int (3 : Int32)), .val (.int (0 : Int32)), .val (.int (own_k i0)), .val (.int f8), .val (.int (own_a0 i1)), .val (.int (own_a1 i1)), .val (.int (own_a2 i1)), .val (.double d), .second, .val (.ref b365), .val (.ref b369), .val (.int (0 : Int32)), .val (.ref b1337), .val (.ref b1401), .unset, .unset, .unset] rfl ?_
            refine own_aload X1401 hx 320 rfl (hb hby at_318) rfl rfl ?_
            refine own_iconst X1401 hx 321 rfl (hb hby at_320) (0 : Int32) rfl ?_
            refine own_aload X1401 hx 323 rfl (hb hby at_321) rfl rfl ?_
            refine own_iconst X1401 hx 324 rfl (hb hby at_323) (0 : Int32) rfl ?_
            refine own_ldI X1401 hx hZ e1401 f1408 ⟨by decide, by decide⟩ (10 : Int32) rfl 325 rfl (hb hby at_324) ?_
            refine own_stI X1401 hx hZ e1401 f1413 ⟨by decide, by decide⟩ 0 rfl (Nat.le_of_ble_eq_true rfl) [(.int (10 : Int32)), (.int (0 : Int32)), (.int (0 : Int32)), (.int (0 : Int32)), (.int (0 : Int32)), (.int (0 : Int32))] rfl 326 rfl (hb hby at_325) fun T1414 h1414 X1414 e1414 W1414 f1415 => ?_
            have f1416 := f1406.wr W1414
            have f1417 := f1407.wr W1414
            have f1418 := f1408.other W1414 ne1403
            have f1419 := f1409.other W1414 ne1402
            have f1420 := f1410.wr W1414
            have f1421 := f1411.other W1414 ne1404
            have f1422 := C1401.wr W1414
            have z1423 := Nat.le_trans z1412 (Keep.of_wr W1414).1
            have N1424 := Fr.snoc X1414 N1400 ge1405
            refine own_aload X1414 hx 328 rfl (hb hby at_326) rfl rfl ?_
            refine own_iconst X1414 hx 329 rfl (hb hby at_328) (1 : Int32) rfl ?_
            refine own_aload X1414 hx 331 rfl (hb hby at_329) rfl rfl ?_
            refine own_iconst X1414 hx 332 rfl (hb hby at_331) (1 : Int32) rfl ?_
            refine own_ldI X1414 hx hZ e1414 f1418 ⟨by decide, by decide⟩ (11 : Int32) rfl 333 rfl (hb hby at_332) ?_
            refine own_stI X1414 hx hZ e1414 f1415 ⟨by decide, by decide⟩ 1 rfl (Nat.le_of_ble_eq_true rfl) [(.int (10 : Int32)), (.int (11 : Int32)), (.int (0 : Int32)), (.int (0 : Int32)), (.int (0 : Int32)), (.int (0 : Int32))] rfl 334 rfl (hb hby at_333) fun T1425 h1425 X1425 e1425 W1425 f1426 => ?_
            have f1427 := f1416.wr W1425
            have f1428 := f1417.wr W1425
            have f1429 := f1418.other W1425 ne1403
            have f1430 := f1419.other W1425 ne1402
            have f1431 := f1420.wr W1425
            have f1432 := f1421.other W1425 ne1404
            have f1433 := f1422.wr W1425
            have z1434 := Nat.le_trans z1423 (Keep.of_wr W1425).1
            have N1435 := Fr.snoc X1425 N1424 ge1405
            refine own_aload X1425 hx 336 rfl (hb hby at_334) rfl rfl ?_
            refine own_iconst X1425 hx 337 rfl (hb hby at_336) (2 : Int32) rfl ?_
            refine own_aload X1425 hx 339 rfl (hb hby at_337) rfl rfl ?_
            refine own_iconst X1425 hx 340 rfl (hb hby at_339) (2 : Int32) rfl ?_
            refine own_ldI X1425 hx hZ e1425 f1429 ⟨by decide, by decide⟩ (12 : Int32) rfl 341 rfl (hb hby at_340) ?_
            refine own_stI X1425 hx hZ e1425 f1426 ⟨by decide, by decide⟩ 2 rfl (Nat.le_of_ble_eq_true rfl) [(.int (10 : Int32)), (.int (11 : Int32)), (.int (12 : Int32)), (.int (0 : Int32)), (.int (0 : Int32)), (.int (0 : Int32))] rfl 342 rfl (hb hby at_341) fun T1436 h1436 X1436 e1436 W1436 f1437 => ?_
            have f1438 := f1427.wr W1436
            have f1439 := f1428.wr W1436
            have f1440 := f1429.other W1436 ne1403
            have f1441 := f1430.other W1436 ne1402
            have f1442 := f1431.wr W1436
            have f1443 := f1432.other W1436 ne1404
            have f1444 := f1433.wr W1436
            have z1445 := Nat.le_trans z1434 (Keep.of_wr W1436).1
            have N1446 := Fr.snoc X1436 N1435 ge1405
            refine own_aload X1436 hx 344 rfl (hb hby at_342) rfl rfl ?_
            refine own_iconst X1436 hx 345 rfl (hb hby at_344) (3 : Int32) rfl ?_
            refine own_aload X1436 hx 347 rfl (hb hby at_345) rfl rfl ?_
            refine own_iconst X1436 hx 348 rfl (hb hby at_347) (3 : Int32) rfl ?_
            refine own_ldI X1436 hx hZ e1436 f1440 ⟨by decide, by decide⟩ (13 : Int32) rfl 349 rfl (hb hby at_348) ?_
            refine own_stI X1436 hx hZ e1436 f1437 ⟨by decide, by decide⟩ 3 rfl (Nat.le_of_ble_eq_true rfl) [(.int (10 : Int32)), (.int (11 : Int32)), (.int (12 : Int32)), (.int (13 : Int32)), (.int (0 : Int32)), (.int (0 : Int32))] rfl 350 rfl (hb hby at_349) fun T1447 h1447 X1447 e1447 W1447 f1448 => ?_
            have f1449 := f1438.wr W1447
            have f1450 := f1439.wr W1447
            have f1451 := f1440.other W1447 ne1403
            have f1452 := f1441.other W1447 ne1402
            have f1453 := f1442.wr W1447
            have f1454 := f1443.other W1447 ne1404
            have f1455 := f1444.wr W1447
            have z1456 := Nat.le_trans z1445 (Keep.of_wr W1447).1
            have N1457 := Fr.snoc X1447 N1446 ge1405
            refine own_aload X1447 hx 352 rfl (hb hby at_350) rfl rfl ?_
            refine own_iconst X1447 hx 353 rfl (hb hby at_352) (4 : Int32) rfl ?_
            refine own_aload X1447 hx 355 rfl (hb hby at_353) rfl rfl ?_
            refine own_iconst X1447 hx 356 rfl (hb hby at_355) (4 : Int32) rfl ?_
            refine own_ldI X1447 hx hZ e1447 f1451 ⟨by decide, by decide⟩ (14 : Int32) rfl 357 rfl (hb hby at_356) ?_
            refine own_stI X1447 hx hZ e1447 f1448 ⟨by decide, by decide⟩ 4 rfl (Nat.le_of_ble_eq_true rfl) [(.int (10 : Int32)), (.int (11 : Int32)), (.int (12 : Int32)), (.int (13 : Int32)), (.int (14 : Int32)), (.int (0 : Int32))] rfl 358 rfl (hb hby at_357) fun T1458 h1458 X1458 e1458 W1458 f1459 => ?_
            have f1460 := f1449.wr W1458
            have f1461 := f1450.wr W1458
            have f1462 := f1451.other W1458 ne1403
            have f1463 := f1452.other W1458 ne1402
            have f1464 := f1453.wr W1458
            have f1465 := f1454.other W1458 ne1404
            have f1466 := f1455.wr W1458
            have z1467 := Nat.le_trans z1456 (Keep.of_wr W1458).1
            have N1468 := Fr.snoc X1458 N1457 ge1405
            refine own_aload X1458 hx 360 rfl (hb hby at_358) rfl rfl ?_
            refine own_iconst X1458 hx 361 rfl (hb hby at_360) (5 : Int32) rfl ?_
            refine own_aload X1458 hx 363 rfl (hb hby at_361) rfl rfl ?_
            refine own_iconst X1458 hx 364 rfl (hb hby at_363) (5 : Int32) rfl ?_
            refine own_ldI X1458 hx hZ e1458 f1462 ⟨by decide, by decide⟩ (15 : Int32) rfl 365 rfl (hb hby at_364) ?_
            refine own_stI X1458 hx hZ e1458 f1459 ⟨by decide, by decide⟩ 5 rfl (Nat.le_of_ble_eq_true rfl) [(.int (10 : Int32)), (.int (11 : Int32)), (.int (12 : Int32)), (.int (13 : Int32)), (.int (14 : Int32)), (.int (15 : Int32))] rfl 366 rfl (hb hby at_365) fun T1469 h1469 X1469 e1469 W1469 f1470 => ?_
            have f1471 := f1460.wr W1469
            have f1472 := f1461.wr W1469
            have f1473 := f1462.other W1469 ne1403
            have f1474 := f1463.other W1469 ne1402
            have f1475 := f1464.wr W1469
            have f1476 := f1465.other W1469 ne1404
            have f1477 := f1466.wr W1469
            have z1478 := Nat.le_trans z1467 (Keep.of_wr W1469).1
            have N1479 := Fr.snoc X1469 N1468 ge1405
            refine own_dload X1469 hx 368 rfl (hb hby at_366) rfl ?_
            refine own_aload X1469 hx 370 rfl (hb hby at_368) rfl rfl ?_
            refine own_iload X1469 hx 372 rfl (hb hby at_370) rfl ?_
            refine own_iload X1469 hx 374 rfl (hb hby at_372) rfl ?_
            refine own_iadd X1469 hx 375 rfl (hb hby at_374) (3 : Int32) rfl ?_
            refine own_iconst X1469 hx 376 rfl (hb hby at_375) (1 : Int32) rfl ?_
            refine own_isub X1469 hx 377 rfl (hb hby at_376) (2 : Int32) rfl ?_
            refine own_ldD X1469 hx hZ e1469 f1474 ⟨by decide, by decide⟩ e2 rfl 378 rfl (hb hby at_377) ?_
            by_cases hc1480 : own_z d < own_z e0
            ·
              refine own_dcmp X1469 hx 379 rfl (hb hby at_378) _ rfl ?_
              refine own_ifNo X1469 hx 382 rfl (hb hby at_379) ((if0 _ _).trans (tlt (own_cg hd nn2 (Int.lt_of_lt_of_le (Int.lt_of_lt_of_le hc1480 la1) la2) .g)).2.1) ?_
              refine own_iconst X1469 hx 383 rfl (hb hby at_382) (1 : Int32) rfl ?_
              refine own_goto X1469 hx 387 (hb hby at_383) (by decide) rfl ?_
              refine own_istore X1469 hx 389 rfl (hb hby at_387) #[.val (.int i0), .val (.int i1), .val (.int i2), .val (.double (9218868437227405312 : UInt64)), .second, .val (.int (3 : Int32)), .val (.int (0 : Int32)), .val (.int (own_k i0)), .val (.int f8), .val (.int (own_a0 i1)), .val (.int (own_a1 i1)), .val (.int (own_a2 i1)), .val (.double d), .second, .val (.ref b365), .val (.ref b369), .val (.int (0 : Int32)), .val (.ref b1337), .val (.ref b1401), .val (.int (1 : Int32)), .unset, .unset] rfl ?_
              refine own_iconst X1469 hx 390 rfl (hb hby at_389) (0 : Int32) rfl ?_
              refine own_istore X1469 hx 392 rfl (hb hby at_390) #[.val (.int i0), .val (.int i1), .val (.int i2), .val (.double (9218868437227405312 : UInt64)), .second, .val (.int (3 : Int32)), .val (.int (0 : Int32)), .val (.int (own_k i0)), .val (.int f8), .val (.int (own_a0 i1)), .val (.int (own_a1 i1)), .val (.int (own_a2 i1)), .val (.double d), .second, .val (.ref b365), .val (.ref b369), .val (.int (0 : Int32)), .val (.ref b1337), .val (.ref b1401), .val (.int (1 : Int32)), .val (.int (0 : Int32)), .unset] rfl ?_
              refine own_aload X1469 hx 394 rfl (hb hby at_392) rfl rfl ?_
              refine own_iload X1469 hx 396 rfl (hb hby at_394) rfl ?_
              refine own_ldD X1469 hx hZ e1469 f1474 ⟨by decide, by decide⟩ e0 rfl 397 rfl (hb hby at_396) ?_
              refine own_dload X1469 hx 399 rfl (hb hby at_397) rfl ?_
              refine own_dcmp X1469 hx 400 rfl (hb hby at_399) _ rfl ?_
              refine own_ifYes X1469 hx 406 (hb hby at_400) ((if0 _ _).trans (tlt (own_cp nn0 hd hc1480 .g)).2.2.1) (by decide) rfl ?_
              refine own_iload X1469 hx 408 rfl (hb hby at_406) rfl ?_
              refine own_iconst X1469 hx 409 rfl (hb hby at_408) (2 : Int32) rfl ?_
              refine own_icmpNo X1469 hx 412 rfl (hb hby at_409) (by decide) ?_
              refine own_aload X1469 hx 414 rfl (hb hby at_412) rfl rfl ?_
              refine own_iload X1469 hx 416 rfl (hb hby at_414) rfl ?_
              refine own_iconst X1469 hx 417 rfl (hb hby at_416) (1 : Int32) rfl ?_
              refine own_iadd X1469 hx 418 rfl (hb hby at_417) (1 : Int32) rfl ?_
              refine own_ldD X1469 hx hZ e1469 f1474 ⟨by decide, by decide⟩ e1 rfl 419 rfl (hb hby at_418) ?_
              refine own_dload X1469 hx 421 rfl (hb hby at_419) rfl ?_
              refine own_dcmp X1469 hx 422 rfl (hb hby at_421) _ rfl ?_
              refine own_ifYes X1469 hx 428 (hb hby at_422) ((if0 _ _).trans (tlt (own_cp nn1 hd (Int.lt_of_lt_of_le hc1480 la1) .g)).2.2.1) (by decide) rfl ?_
              refine own_iload X1469 hx 430 rfl (hb hby at_428) rfl ?_
              refine own_iconst X1469 hx 431 rfl (hb hby at_430) (3 : Int32) rfl ?_
              refine own_icmpNo X1469 hx 434 rfl (hb hby at_431) (by decide) ?_
              refine own_aload X1469 hx 436 rfl (hb hby at_434) rfl rfl ?_
              refine own_iload X1469 hx 438 rfl (hb hby at_436) rfl ?_
              refine own_iconst X1469 hx 439 rfl (hb hby at_438) (2 : Int32) rfl ?_
              refine own_iadd X1469 hx 440 rfl (hb hby at_439) (2 : Int32) rfl ?_
              refine own_ldD X1469 hx hZ e1469 f1474 ⟨by decide, by decide⟩ e2 rfl 441 rfl (hb hby at_440) ?_
              refine own_dload X1469 hx 443 rfl (hb hby at_441) rfl ?_
              refine own_dcmp X1469 hx 444 rfl (hb hby at_443) _ rfl ?_
              refine own_ifYes X1469 hx 450 (hb hby at_444) ((if0 _ _).trans (tlt (own_cp nn2 hd (Int.lt_of_lt_of_le (Int.lt_of_lt_of_le hc1480 la1) la2) .g)).2.2.1) (by decide) rfl ?_
              refine own_iloadN X1469 hx 451 rfl (hb hby at_450) rfl ?_
              refine own_dload X1469 hx 453 rfl (hb hby at_451) rfl ?_
              refine own_iload X1469 hx 455 rfl (hb hby at_453) rfl ?_
              refine own_iload X1469 hx 457 rfl (hb hby at_455) rfl ?_
              refine own_aload X1469 hx 459 rfl (hb hby at_457) rfl rfl ?_
              refine own_aload X1469 hx 461 rfl (hb hby at_459) rfl rfl ?_
              refine own_callS X1469 hx hZ (y := (⟨"com/example/outpost/outpost/model/Distances", "keepNearer", "(IDII[D[I)Z"⟩ : MethodName)) hown (own_hw hw 9 rfl) (own_hw hw 10 rfl) (by decide) (rm_keep_3_0_0 l Z a0 hw [] i2 d b1337 b1401 k1337 k1401 e0 e1 e2 (4652033697120256000 : UInt64) (4652042493213278208 : UInt64) (4652051289306300416 : UInt64) (10 : Int32) (11 : Int32) (12 : Int32) (13 : Int32) (14 : Int32) (15 : Int32) h1469 n0 z1478 f1476 f1470 ne1404 ge1340 ge1405 (own_cg hd nn2 (Int.lt_of_lt_of_le (Int.lt_of_lt_of_le hc1480 la1) la2) .g) (own_cp nn1 hd (Int.lt_of_lt_of_le hc1480 la1) .l) (own_cp nn0 hd hc1480 .l)) (own_hw hw 12 rfl) (own_hw hw 11 rfl) (by decide) e1469 (by rw [hml]; rfl) [(.int i2), (.double d), (.int (0 : Int32)), (.int (3 : Int32)), (.ref b1337), (.ref b1401)] 0 (by decide) (Nat.le_of_eq rfl) (by decide) (by decide) (lenOf own_pd2 rfl) rfl rfl 464 rfl (hb hby at_461) fun v1481 T1481 Lc1481 X1481 hQ1481 => ?_
              obtain ⟨rfl, Nq1481, Kq1481, fu1481, fw1481⟩ := hQ1481
              have N1482 := Fr.app N1479 Nq1481
              have f1483 := f1471.keep Kq1481
              have f1484 := f1472.keep Kq1481
              have f1485 := f1473.keep Kq1481 (ninS ne1339 (ninS ne1403 nin0))
              have f1486 := f1474.keep Kq1481 (ninS ne1338 (ninS ne1402 nin0))
              have f1487 := f1475.keep Kq1481
              have f1489 := f1477.keep Kq1481
              have z1491 := Nat.le_trans z1478 Kq1481.1
              show own_Go _ _ _ _ _ (State.setTop _ (mkF _ 464 _ [(.int (1 : Int32))]))
              refine own_istore X1481 hx 466 rfl (hb hby at_464) #[.val (.int i0), .val (.int i1), .val (.int i2), .val (.double (9218868437227405312 : UInt64)), .second, .val (.int (3 : Int32)), .val (.int (0 : Int32)), .val (.int (own_k i0)), .val (.int f8), .val (.int (own_a0 i1)), .val (.int (own_a1 i1)), .val (.int (own_a2 i1)), .val (.double d), .second, .val (.ref b365), .val (.ref b369), .val (.int (0 : Int32)), .val (.ref b1337), .val (.ref b1401), .val (.int (1 : Int32)), .val (.int (0 : Int32)), .val (.int (1 : Int32))] rfl ?_
              refine own_iload X1481 hx 468 rfl (hb hby at_466) rfl ?_
              refine own_iload X1481 hx 470 rfl (hb hby at_468) rfl ?_
              refine own_icmpNo X1481 hx 473 rfl (hb hby at_470) (by decide) ?_
              refine own_iconst X1481 hx 474 rfl (hb hby at_473) (0 : Int32) rfl ?_
              refine own_iload X1481 hx 476 rfl (hb hby at_474) rfl ?_
              refine own_iload X1481 hx 478 rfl (hb hby at_476) rfl ?_
              refine own_iload X1481 hx 480 rfl (hb hby at_478) rfl ?_
              refine own_iload X1481 hx 482 rfl (hb hby at_480) rfl ?_
              refine own_dload X1481 hx 484 rfl (hb hby at_482) rfl ?_
              refine own_iloadN X1481 hx 485 rfl (hb hby at_484) rfl ?_
              refine own_aload X1481 hx 487 rfl (hb hby at_485) rfl rfl ?_
              refine own_aload X1481 hx 489 rfl (hb hby at_487) rfl rfl ?_
              refine own_aload X1481 hx 491 rfl (hb hby at_489) rfl rfl ?_
              refine own_aload X1481 hx 493 rfl (hb hby at_491) rfl rfl ?_
              refine own_callS X1481 hx hZ (y := (⟨"com/example/outpost/outpost/model/DistancesKeepNearerPinLaw", "same", "(IIIIZDI[D[I[D[I)Z"⟩ : MethodName)) hown (own_hw hw 13 rfl) (own_hw hw 14 rfl) (by decide) (rm_same_C l Z a0 hw [] (0 : Int32) (0 : Int32) (3 : Int32) (0 : Int32) d i2 b365 b369 b1337 b1401 k365 k369 k1337 k1401 [(.double e0), (.double e1), (.double e2), (.double (4652033697120256000 : UInt64)), (.double (4652042493213278208 : UInt64)), (.double (4652051289306300416 : UInt64))] [(.int (10 : Int32)), (.int (11 : Int32)), (.int (12 : Int32)), (.int (13 : Int32)), (.int (14 : Int32)), (.int (15 : Int32))] [(.double d), (.double e0), (.double e1), (.double (4652033697120256000 : UInt64)), (.double (4652042493213278208 : UInt64)), (.double (4652051289306300416 : UInt64))] [(.int i2), (.int (10 : Int32)), (.int (11 : Int32)), (.int (13 : Int32)), (.int (14 : Int32)), (.int (15 : Int32))] d i2 T1481.heap n0 z1491 f1486 f1485 fu1481 fw1481 (by decide) (by decide) (by decide) (by decide) rfl rfl (by decide) rfl rfl (own_self hd)) (own_hw hw 16 rfl) (own_hw hw 15 rfl) (by decide) rfl (by rw [hml]; rfl) [(.int (0 : Int32)), (.int (0 : Int32)), (.int (3 : Int32)), (.int (0 : Int32)), (.int (1 : Int32)), (.double d), (.int i2), (.ref b365), (.ref b369), (.ref b1337), (.ref b1401)] 0 (by decide) (Nat.le_of_eq rfl) (by decide) (by decide) (lenOf own_pd3 rfl) rfl rfl 496 rfl (hb hby at_493) fun v1492 T1492 Lc1492 X1492 hQ1492 => ?_
              obtain ⟨rfl, Nq1492, e1492⟩ := hQ1492
              have N1493 := Fr.app N1482 Nq1492
              show own_Go _ _ _ _ _ (State.setTop _ (mkF _ 496 _ [(.int (1 : Int32))]))
              refine own_ifNo X1492 hx 499 rfl (hb hby at_496) (by decide) ?_
              refine own_iconst X1492 hx 500 rfl (hb hby at_499) (1 : Int32) rfl ?_
              refine own_iload X1492 hx 502 rfl (hb hby at_500) rfl ?_
              refine own_iload X1492 hx 504 rfl (hb hby at_502) rfl ?_
              refine own_iload X1492 hx 506 rfl (hb hby at_504) rfl ?_
              refine own_iload X1492 hx 508 rfl (hb hby at_506) rfl ?_
              refine own_dload X1492 hx 510 rfl (hb hby at_508) rfl ?_
              refine own_iloadN X1492 hx 511 rfl (hb hby at_510) rfl ?_
              refine own_aload X1492 hx 513 rfl (hb hby at_511) rfl rfl ?_
              refine own_aload X1492 hx 515 rfl (hb hby at_513) rfl rfl ?_
              refine own_aload X1492 hx 517 rfl (hb hby at_515) rfl rfl ?_
              refine own_aload X1492 hx 519 rfl (hb hby at_517) rfl rfl ?_
              refine own_callS X1492 hx hZ (y := (⟨"com/example/outpost/outpost/model/DistancesKeepNearerPinLaw", "same", "(IIIIZDI[D[I[D[I)Z"⟩ : MethodName)) hown (own_hw hw 13 rfl) (own_hw hw 14 rfl) (by decide) (rm_same_D l Z a0 hw [] (1 : Int32) (0 : Int32) (3 : Int32) (0 : Int32) d i2 b365 b369 b1337 b1401 k365 k369 k1337 k1401 [(.double e0), (.double e1), (.double e2), (.double (4652033697120256000 : UInt64)), (.double (4652042493213278208 : UInt64)), (.double (4652051289306300416 : UInt64))] [(.int (10 : Int32)), (.int (11 : Int32)), (.int (12 : Int32)), (.int (13 : Int32)), (.int (14 : Int32)), (.int (15 : Int32))] [(.double d), (.double e0), (.double e1), (.double (4652033697120256000 : UInt64)), (.double (4652042493213278208 : UInt64)), (.double (4652051289306300416 : UInt64))] [(.int i2), (.int (10 : Int32)), (.int (11 : Int32)), (.int (13 : Int32)), (.int (14 : Int32)), (.int (15 : Int32))] e0 (10 : Int32) T1481.heap n0 z1491 f1486 f1485 fu1481 fw1481 (by decide) (by decide) (by decide) (by decide) (by decide) rfl rfl (by decide) rfl rfl (own_self nn0)) (own_hw hw 16 rfl) (own_hw hw 15 rfl) (by decide) e1492 (by rw [hml]; rfl) [(.int (1 : Int32)), (.int (0 : Int32)), (.int (3 : Int32)), (.int (0 : Int32)), (.int (1 : Int32)), (.double d), (.int i2), (.ref b365), (.ref b369), (.ref b1337), (.ref b1401)] 0 (by decide) (Nat.le_of_eq rfl) (by decide) (by decide) (lenOf own_pd3 rfl) rfl rfl 522 rfl (hb hby at_519) fun v1494 T1494 Lc1494 X1494 hQ1494 => ?_
              obtain ⟨rfl, Nq1494, e1494⟩ := hQ1494
              have N1495 := Fr.app N1493 Nq1494
              show own_Go _ _ _ _ _ (State.setTop _ (mkF _ 522 _ [(.int (1 : Int32))]))
              refine own_ifNo X1494 hx 525 rfl (hb hby at_522) (by decide) ?_
              refine own_iconst X1494 hx 526 rfl (hb hby at_525) (2 : Int32) rfl ?_
              refine own_iload X1494 hx 528 rfl (hb hby at_526) rfl ?_
              refine own_iload X1494 hx 530 rfl (hb hby at_528) rfl ?_
              refine own_iload X1494 hx 532 rfl (hb hby at_530) rfl ?_
              refine own_iload X1494 hx 534 rfl (hb hby at_532) rfl ?_
              refine own_dload X1494 hx 536 rfl (hb hby at_534) rfl ?_
              refine own_iloadN X1494 hx 537 rfl (hb hby at_536) rfl ?_
              refine own_aload X1494 hx 539 rfl (hb hby at_537) rfl rfl ?_
              refine own_aload X1494 hx 541 rfl (hb hby at_539) rfl rfl ?_
              refine own_aload X1494 hx 543 rfl (hb hby at_541) rfl rfl ?_
              refine own_aload X1494 hx 545 rfl (hb hby at_543) rfl rfl ?_
              refine own_callS X1494 hx hZ (y := (⟨"com/example/outpost/outpost/model/DistancesKeepNearerPinLaw", "same", "(IIIIZDI[D[I[D[I)Z"⟩ : MethodName)) hown (own_hw hw 13 rfl) (own_hw hw 14 rfl) (by decide) (rm_same_D l Z a0 hw [] (2 : Int32) (0 : Int32) (3 : Int32) (0 : Int32) d i2 b365 b369 b1337 b1401 k365 k369 k1337 k1401 [(.double e0), (.double e1), (.double e2), (.double (4652033697120256000 : UInt64)), (.double (4652042493213278208 : UInt64)), (.double (4652051289306300416 : UInt64))] [(.int (10 : Int32)), (.int (11 : Int32)), (.int (12 : Int32)), (.int (13 : Int32)), (.int (14 : Int32)), (.int (15 : Int32))] [(.double d), (.double e0), (.double e1), (.double (4652033697120256000 : UInt64)), (.double (4652042493213278208 : UInt64)), (.double (4652051289306300416 : UInt64))] [(.int i2), (.int (10 : Int32)), (.int (11 : Int32)), (.int (13 : Int32)), (.int (14 : Int32)), (.int (15 : Int32))] e1 (11 : Int32) T1481.heap n0 z1491 f1486 f1485 fu1481 fw1481 (by decide) (by decide) (by decide) (by decide) (by decide) rfl rfl (by decide) rfl rfl (own_self nn1)) (own_hw hw 16 rfl) (own_hw hw 15 rfl) (by decide) e1494 (by rw [hml]; rfl) [(.int (2 : Int32)), (.int (0 : Int32)), (.int (3 : Int32)), (.int (0 : Int32)), (.int (1 : Int32)), (.double d), (.int i2), (.ref b365), (.ref b369), (.ref b1337), (.ref b1401)] 0 (by decide) (Nat.le_of_eq rfl) (by decide) (by decide) (lenOf own_pd3 rfl) rfl rfl 548 rfl (hb hby at_545) fun v1496 T1496 Lc1496 X1496 hQ1496 => ?_
              obtain ⟨rfl, Nq1496, e1496⟩ := hQ1496
              have N1497 := Fr.app N1495 Nq1496
              show own_Go _ _ _ _ _ (State.setTop _ (mkF _ 548 _ [(.int (1 : Int32))]))
              refine own_ifNo X1496 hx 551 rfl (hb hby at_548) (by decide) ?_
              refine own_iconst X1496 hx 552 rfl (hb hby at_551) (3 : Int32) rfl ?_
              refine own_iload X1496 hx 554 rfl (hb hby at_552) rfl ?_
              refine own_iload X1496 hx 556 rfl (hb hby at_554) rfl ?_
              refine own_iload X1496 hx 558 rfl (hb hby at_556) rfl ?_
              refine own_iload X1496 hx 560 rfl (hb hby at_558) rfl ?_
              refine own_dload X1496 hx 562 rfl (hb hby at_560) rfl ?_
              refine own_iloadN X1496 hx 563 rfl (hb hby at_562) rfl ?_
              refine own_aload X1496 hx 565 rfl (hb hby at_563) rfl rfl ?_
              refine own_aload X1496 hx 567 rfl (hb hby at_565) rfl rfl ?_
              refine own_aload X1496 hx 569 rfl (hb hby at_567) rfl rfl ?_
              refine own_aload X1496 hx 571 rfl (hb hby at_569) rfl rfl ?_
              refine own_callS X1496 hx hZ (y := (⟨"com/example/outpost/outpost/model/DistancesKeepNearerPinLaw", "same", "(IIIIZDI[D[I[D[I)Z"⟩ : MethodName)) hown (own_hw hw 13 rfl) (own_hw hw 14 rfl) (by decide) (rm_same_A3 l Z a0 hw [] (3 : Int32) (0 : Int32) (3 : Int32) (0 : Int32) d i2 b365 b369 b1337 b1401 k365 k369 k1337 k1401 [(.double e0), (.double e1), (.double e2), (.double (4652033697120256000 : UInt64)), (.double (4652042493213278208 : UInt64)), (.double (4652051289306300416 : UInt64))] [(.int (10 : Int32)), (.int (11 : Int32)), (.int (12 : Int32)), (.int (13 : Int32)), (.int (14 : Int32)), (.int (15 : Int32))] [(.double d), (.double e0), (.double e1), (.double (4652033697120256000 : UInt64)), (.double (4652042493213278208 : UInt64)), (.double (4652051289306300416 : UInt64))] [(.int i2), (.int (10 : Int32)), (.int (11 : Int32)), (.int (13 : Int32)), (.int (14 : Int32)), (.int (15 : Int32))] (4652033697120256000 : UInt64) (13 : Int32) T1481.heap n0 z1491 f1486 f1485 fu1481 fw1481 (by decide) (by decide) (by decide) rfl rfl (by decide) rfl rfl (own_self own_cst.2.2.2.1)) (own_hw hw 16 rfl) (own_hw hw 15 rfl) (by decide) e1496 (by rw [hml]; rfl) [(.int (3 : Int32)), (.int (0 : Int32)), (.int (3 : Int32)), (.int (0 : Int32)), (.int (1 : Int32)), (.double d), (.int i2), (.ref b365), (.ref b369), (.ref b1337), (.ref b1401)] 0 (by decide) (Nat.le_of_eq rfl) (by decide) (by decide) (lenOf own_pd3 rfl) rfl rfl 574 rfl (hb hby at_571) fun v1498 T1498 Lc1498 X1498 hQ1498 => ?_
              obtain ⟨rfl, Nq1498, e1498⟩ := hQ1498
              have N1499 := Fr.app N1497 Nq1498
              show own_Go _ _ _ _ _ (State.setTop _ (mkF _ 574 _ [(.int (1 : Int32))]))
              refine own_ifNo X1498 hx 577 rfl (hb hby at_574) (by decide) ?_
              refine own_iconst X1498 hx 578 rfl (hb hby at_577) (4 : Int32) rfl ?_
              refine own_iload X1498 hx 580 rfl (hb hby at_578) rfl ?_
              refine own_iload X1498 hx 582 rfl (hb hby at_580) rfl ?_
              refine own_iload X1498 hx 584 rfl (hb hby at_582) rfl ?_
              refine own_iload X1498 hx 586 rfl (hb hby at_584) rfl ?_
              refine own_dload X1498 hx 588 rfl (hb hby at_586) rfl ?_
              refine own_iloadN X1498 hx 589 rfl (hb hby at_588) rfl ?_
              refine own_aload X1498 hx 591 rfl (hb hby at_589) rfl rfl ?_
              refine own_aload X1498 hx 593 rfl (hb hby at_591) rfl rfl ?_
              refine own_aload X1498 hx 595 rfl (hb hby at_593) rfl rfl ?_
              refine own_aload X1498 hx 597 rfl (hb hby at_595) rfl rfl ?_
              refine own_callS X1498 hx hZ (y := (⟨"com/example/outpost/outpost/model/DistancesKeepNearerPinLaw", "same", "(IIIIZDI[D[I[D[I)Z"⟩ : MethodName)) hown (own_hw hw 13 rfl) (own_hw hw 14 rfl) (by decide) (rm_same_A3 l Z a0 hw [] (4 : Int32) (0 : Int32) (3 : Int32) (0 : Int32) d i2 b365 b369 b1337 b1401 k365 k369 k1337 k1401 [(.double e0), (.double e1), (.double e2), (.double (4652033697120256000 : UInt64)), (.double (4652042493213278208 : UInt64)), (.double (4652051289306300416 : UInt64))] [(.int (10 : Int32)), (.int (11 : Int32)), (.int (12 : Int32)), (.int (13 : Int32)), (.int (14 : Int32)), (.int (15 : Int32))] [(.double d), (.double e0), (.double e1), (.double (4652033697120256000 : UInt64)), (.double (4652042493213278208 : UInt64)), (.double (4652051289306300416 : UInt64))] [(.int i2), (.int (10 : Int32)), (.int (11 : Int32)), (.int (13 : Int32)), (.int (14 : Int32)), (.int (15 : Int32))] (4652042493213278208 : UInt64) (14 : Int32) T1481.heap n0 z1491 f1486 f1485 fu1481 fw1481 (by decide) (by decide) (by decide) rfl rfl (by decide) rfl rfl (own_self own_cst.2.2.2.2.1)) (own_hw hw 16 rfl) (own_hw hw 15 rfl) (by decide) e1498 (by rw [hml]; rfl) [(.int (4 : Int32)), (.int (0 : Int32)), (.int (3 : Int32)), (.int (0 : Int32)), (.int (1 : Int32)), (.double d), (.int i2), (.ref b365), (.ref b369), (.ref b1337), (.ref b1401)] 0 (by decide) (Nat.le_of_eq rfl) (by decide) (by decide) (lenOf own_pd3 rfl) rfl rfl 600 rfl (hb hby at_597) fun v1500 T1500 Lc1500 X1500 hQ1500 => ?_
              obtain ⟨rfl, Nq1500, e1500⟩ := hQ1500
              have N1501 := Fr.app N1499 Nq1500
              show own_Go _ _ _ _ _ (State.setTop _ (mkF _ 600 _ [(.int (1 : Int32))]))
              refine own_ifNo X1500 hx 603 rfl (hb hby at_600) (by decide) ?_
              refine own_iconst X1500 hx 604 rfl (hb hby at_603) (5 : Int32) rfl ?_
              refine own_iload X1500 hx 606 rfl (hb hby at_604) rfl ?_
              refine own_iload X1500 hx 608 rfl (hb hby at_606) rfl ?_
              refine own_iload X1500 hx 610 rfl (hb hby at_608) rfl ?_
              refine own_iload X1500 hx 612 rfl (hb hby at_610) rfl ?_
              refine own_dload X1500 hx 614 rfl (hb hby at_612) rfl ?_
              refine own_iloadN X1500 hx 615 rfl (hb hby at_614) rfl ?_
              refine own_aload X1500 hx 617 rfl (hb hby at_615) rfl rfl ?_
              refine own_aload X1500 hx 619 rfl (hb hby at_617) rfl rfl ?_
              refine own_aload X1500 hx 621 rfl (hb hby at_619) rfl rfl ?_
              refine own_aload X1500 hx 623 rfl (hb hby at_621) rfl rfl ?_
              refine own_callS X1500 hx hZ (y := (⟨"com/example/outpost/outpost/model/DistancesKeepNearerPinLaw", "same", "(IIIIZDI[D[I[D[I)Z"⟩ : MethodName)) hown (own_hw hw 13 rfl) (own_hw hw 14 rfl) (by decide) (rm_same_A3 l Z a0 hw [] (5 : Int32) (0 : Int32) (3 : Int32) (0 : Int32) d i2 b365 b369 b1337 b1401 k365 k369 k1337 k1401 [(.double e0), (.double e1), (.double e2), (.double (4652033697120256000 : UInt64)), (.double (4652042493213278208 : UInt64)), (.double (4652051289306300416 : UInt64))] [(.int (10 : Int32)), (.int (11 : Int32)), (.int (12 : Int32)), (.int (13 : Int32)), (.int (14 : Int32)), (.int (15 : Int32))] [(.double d), (.double e0), (.double e1), (.double (4652033697120256000 : UInt64)), (.double (4652042493213278208 : UInt64)), (.double (4652051289306300416 : UInt64))] [(.int i2), (.int (10 : Int32)), (.int (11 : Int32)), (.int (13 : Int32)), (.int (14 : Int32)), (.int (15 : Int32))] (4652051289306300416 : UInt64) (15 : Int32) T1481.heap n0 z1491 f1486 f1485 fu1481 fw1481 (by decide) (by decide) (by decide) rfl rfl (by decide) rfl rfl (own_self own_cst.2.2.2.2.2)) (own_hw hw 16 rfl) (own_hw hw 15 rfl) (by decide) e1500 (by rw [hml]; rfl) [(.int (5 : Int32)), (.int (0 : Int32)), (.int (3 : Int32)), (.int (0 : Int32)), (.int (1 : Int32)), (.double d), (.int i2), (.ref b365), (.ref b369), (.ref b1337), (.ref b1401)] 0 (by decide) (Nat.le_of_eq rfl) (by decide) (by decide) (lenOf own_pd3 rfl) rfl rfl 626 rfl (hb hby at_623) fun v1502 T1502 Lc1502 X1502 hQ1502 => ?_
              obtain ⟨rfl, Nq1502, e1502⟩ := hQ1502
              have N1503 := Fr.app N1501 Nq1502
              show own_Go _ _ _ _ _ (State.setTop _ (mkF _ 626 _ [(.int (1 : Int32))]))
              refine own_ifNo X1502 hx 629 rfl (hb hby at_626) (by decide) ?_
              refine own_iconst X1502 hx 630 rfl (hb hby at_629) (1 : Int32) rfl ?_
              refine own_goto X1502 hx 634 (hb hby at_630) (by decide) rfl ?_
              refine own_ret X1502 (some (.int (1 : Int32))) (fun h => by rw [Bd.returns] at h; cases h) Bd.notSynchronized (by decide) (by decide) ?_ (fun fs hr => retN X1502 hx (t := .boolean) Bd.returns (by simp) (hb hby at_634) hr)
              show Q_rm0 Z i0 i1 i2 h0 n0 _ T1502.heap _
              rw [e1502]
              exact ⟨rfl, N1503⟩
            ·
              by_cases hc1504 : own_z d < own_z e1
              ·
                refine own_dcmp X1469 hx 379 rfl (hb hby at_378) _ rfl ?_
                refine own_ifNo X1469 hx 382 rfl (hb hby at_379) ((if0 _ _).trans (tlt (own_cg hd nn2 (Int.lt_of_lt_of_le hc1504 la2) .g)).2.1) ?_
                refine own_iconst X1469 hx 383 rfl (hb hby at_382) (1 : Int32) rfl ?_
                refine own_goto X1469 hx 387 (hb hby at_383) (by decide) rfl ?_
                refine own_istore X1469 hx 389 rfl (hb hby at_387) #[.val (.int i0), .val (.int i1), .val (.int i2), .val (.double (9218868437227405312 : UInt64)), .second, .val (.int (3 : Int32)), .val (.int (0 : Int32)), .val (.int (own_k i0)), .val (.int f8), .val (.int (own_a0 i1)), .val (.int (own_a1 i1)), .val (.int (own_a2 i1)), .val (.double d), .second, .val (.ref b365), .val (.ref b369), .val (.int (0 : Int32)), .val (.ref b1337), .val (.ref b1401), .val (.int (1 : Int32)), .unset, .unset] rfl ?_
                refine own_iconst X1469 hx 390 rfl (hb hby at_389) (0 : Int32) rfl ?_
                refine own_istore X1469 hx 392 rfl (hb hby at_390) #[.val (.int i0), .val (.int i1), .val (.int i2), .val (.double (9218868437227405312 : UInt64)), .second, .val (.int (3 : Int32)), .val (.int (0 : Int32)), .val (.int (own_k i0)), .val (.int f8), .val (.int (own_a0 i1)), .val (.int (own_a1 i1)), .val (.int (own_a2 i1)), .val (.double d), .second, .val (.ref b365), .val (.ref b369), .val (.int (0 : Int32)), .val (.ref b1337), .val (.ref b1401), .val (.int (1 : Int32)), .val (.int (0 : Int32)), .unset] rfl ?_
                refine own_aload X1469 hx 394 rfl (hb hby at_392) rfl rfl ?_
                refine own_iload X1469 hx 396 rfl (hb hby at_394) rfl ?_
                refine own_ldD X1469 hx hZ e1469 f1474 ⟨by decide, by decide⟩ e0 rfl 397 rfl (hb hby at_396) ?_
                refine own_dload X1469 hx 399 rfl (hb hby at_397) rfl ?_
                refine own_dcmp X1469 hx 400 rfl (hb hby at_399) _ rfl ?_
                refine own_ifNo X1469 hx 403 rfl (hb hby at_400) ((if0 _ _).trans (flt (own_cmp_le nn0 hd (Int.not_lt.mp hc1480) .g)).2.2.1) ?_
                refine own_iinc X1469 hx 406 rfl (hb hby at_403) rfl #[.val (.int i0), .val (.int i1), .val (.int i2), .val (.double (9218868437227405312 : UInt64)), .second, .val (.int (3 : Int32)), .val (.int (0 : Int32)), .val (.int (own_k i0)), .val (.int f8), .val (.int (own_a0 i1)), .val (.int (own_a1 i1)), .val (.int (own_a2 i1)), .val (.double d), .second, .val (.ref b365), .val (.ref b369), .val (.int (0 : Int32)), .val (.ref b1337), .val (.ref b1401), .val (.int (1 : Int32)), .val (.int (1 : Int32)), .unset] rfl ?_
                refine own_iload X1469 hx 408 rfl (hb hby at_406) rfl ?_
                refine own_iconst X1469 hx 409 rfl (hb hby at_408) (2 : Int32) rfl ?_
                refine own_icmpNo X1469 hx 412 rfl (hb hby at_409) (by decide) ?_
                refine own_aload X1469 hx 414 rfl (hb hby at_412) rfl rfl ?_
                refine own_iload X1469 hx 416 rfl (hb hby at_414) rfl ?_
                refine own_iconst X1469 hx 417 rfl (hb hby at_416) (1 : Int32) rfl ?_
                refine own_iadd X1469 hx 418 rfl (hb hby at_417) (1 : Int32) rfl ?_
                refine own_ldD X1469 hx hZ e1469 f1474 ⟨by decide, by decide⟩ e1 rfl 419 rfl (hb hby at_418) ?_
                refine own_dload X1469 hx 421 rfl (hb hby at_419) rfl ?_
                refine own_dcmp X1469 hx 422 rfl (hb hby at_421) _ rfl ?_
                refine own_ifYes X1469 hx 428 (hb hby at_422) ((if0 _ _).trans (tlt (own_cp nn1 hd hc1504 .g)).2.2.1) (by decide) rfl ?_
                refine own_iload X1469 hx 430 rfl (hb hby at_428) rfl ?_
                refine own_iconst X1469 hx 431 rfl (hb hby at_430) (3 : Int32) rfl ?_
                refine own_icmpNo X1469 hx 434 rfl (hb hby at_431) (by decide) ?_
                refine own_aload X1469 hx 436 rfl (hb hby at_434) rfl rfl ?_
                refine own_iload X1469 hx 438 rfl (hb hby at_436) rfl ?_
                refine own_iconst X1469 hx 439 rfl (hb hby at_438) (2 : Int32) rfl ?_
                refine own_iadd X1469 hx 440 rfl (hb hby at_439) (2 : Int32) rfl ?_
                refine own_ldD X1469 hx hZ e1469 f1474 ⟨by decide, by decide⟩ e2 rfl 441 rfl (hb hby at_440) ?_
                refine own_dload X1469 hx 443 rfl (hb hby at_441) rfl ?_
                refine own_dcmp X1469 hx 444 rfl (hb hby at_443) _ rfl ?_
                refine own_ifYes X1469 hx 450 (hb hby at_444) ((if0 _ _).trans (tlt (own_cp nn2 hd (Int.lt_of_lt_of_le hc1504 la2) .g)).2.2.1) (by decide) rfl ?_
                refine own_iloadN X1469 hx 451 rfl (hb hby at_450) rfl ?_
                refine own_dload X1469 hx 453 rfl (hb hby at_451) rfl ?_
                refine own_iload X1469 hx 455 rfl (hb hby at_453) rfl ?_
                refine own_iload X1469 hx 457 rfl (hb hby at_455) rfl ?_
                refine own_aload X1469 hx 459 rfl (hb hby at_457) rfl rfl ?_
                refine own_aload X1469 hx 461 rfl (hb hby at_459) rfl rfl ?_
                refine own_callS X1469 hx hZ (y := (⟨"com/example/outpost/outpost/model/Distances", "keepNearer", "(IDII[D[I)Z"⟩ : MethodName)) hown (own_hw hw 9 rfl) (own_hw hw 10 rfl) (by decide) (rm_keep_3_0_1 l Z a0 hw [] i2 d b1337 b1401 k1337 k1401 e0 e1 e2 (4652033697120256000 : UInt64) (4652042493213278208 : UInt64) (4652051289306300416 : UInt64) (10 : Int32) (11 : Int32) (12 : Int32) (13 : Int32) (14 : Int32) (15 : Int32) h1469 n0 z1478 f1476 f1470 ne1404 ge1340 ge1405 (own_cg hd nn2 (Int.lt_of_lt_of_le hc1504 la2) .g) (own_cp nn1 hd hc1504 .l) (own_cmp_le nn0 hd (Int.not_lt.mp hc1480) .l)) (own_hw hw 12 rfl) (own_hw hw 11 rfl) (by decide) e1469 (by rw [hml]; rfl) [(.int i2), (.double d), (.int (0 : Int32)), (.int (3 : Int32)), (.ref b1337), (.ref b1401)] 0 (by decide) (Nat.le_of_eq rfl) (by decide) (by decide) (lenOf own_pd2 rfl) rfl rfl 464 rfl (hb hby at_461) fun v1505 T1505 Lc1505 X1505 hQ1505 => ?_
                obtain ⟨rfl, Nq1505, Kq1505, fu1505, fw1505⟩ := hQ1505
                have N1506 := Fr.app N1479 Nq1505
                have f1507 := f1471.keep Kq1505
                have f1508 := f1472.keep Kq1505
                have f1509 := f1473.keep Kq1505 (ninS ne1339 (ninS ne1403 nin0))
                have f1510 := f1474.keep Kq1505 (ninS ne1338 (ninS ne1402 nin0))
                have f1511 := f1475.keep Kq1505
                have f1513 := f1477.keep Kq1505
                have z1515 := Nat.le_trans z1478 Kq1505.1
                show own_Go _ _ _ _ _ (State.setTop _ (mkF _ 464 _ [(.int (1 : Int32))]))
                refine own_istore X1505 hx 466 rfl (hb hby at_464) #[.val (.int i0), .val (.int i1), .val (.int i2), .val (.double (9218868437227405312 : UInt64)), .second, .val (.int (3 : Int32)), .val (.int (0 : Int32)), .val (.int (own_k i0)), .val (.int f8), .val (.int (own_a0 i1)), .val (.int (own_a1 i1)), .val (.int (own_a2 i1)), .val (.double d), .second, .val (.ref b365), .val (.ref b369), .val (.int (0 : Int32)), .val (.ref b1337), .val (.ref b1401), .val (.int (1 : Int32)), .val (.int (1 : Int32)), .val (.int (1 : Int32))] rfl ?_
                refine own_iload X1505 hx 468 rfl (hb hby at_466) rfl ?_
                refine own_iload X1505 hx 470 rfl (hb hby at_468) rfl ?_
                refine own_icmpNo X1505 hx 473 rfl (hb hby at_470) (by decide) ?_
                refine own_iconst X1505 hx 474 rfl (hb hby at_473) (0 : Int32) rfl ?_
                refine own_iload X1505 hx 476 rfl (hb hby at_474) rfl ?_
                refine own_iload X1505 hx 478 rfl (hb hby at_476) rfl ?_
                refine own_iload X1505 hx 480 rfl (hb hby at_478) rfl ?_
                refine own_iload X1505 hx 482 rfl (hb hby at_480) rfl ?_
                refine own_dload X1505 hx 484 rfl (hb hby at_482) rfl ?_
                refine own_iloadN X1505 hx 485 rfl (hb hby at_484) rfl ?_
                refine own_aload X1505 hx 487 rfl (hb hby at_485) rfl rfl ?_
                refine own_aload X1505 hx 489 rfl (hb hby at_487) rfl rfl ?_
                refine own_aload X1505 hx 491 rfl (hb hby at_489) rfl rfl ?_
                refine own_aload X1505 hx 493 rfl (hb hby at_491) rfl rfl ?_
                refine own_callS X1505 hx hZ (y := (⟨"com/example/outpost/outpost/model/DistancesKeepNearerPinLaw", "same", "(IIIIZDI[D[I[D[I)Z"⟩ : MethodName)) hown (own_hw hw 13 rfl) (own_hw hw 14 rfl) (by decide) (rm_same_B l Z a0 hw [] (0 : Int32) (0 : Int32) (3 : Int32) (1 : Int32) d i2 b365 b369 b1337 b1401 k365 k369 k1337 k1401 [(.double e0), (.double e1), (.double e2), (.double (4652033697120256000 : UInt64)), (.double (4652042493213278208 : UInt64)), (.double (4652051289306300416 : UInt64))] [(.int (10 : Int32)), (.int (11 : Int32)), (.int (12 : Int32)), (.int (13 : Int32)), (.int (14 : Int32)), (.int (15 : Int32))] [(.double e0), (.double d), (.double e1), (.double (4652033697120256000 : UInt64)), (.double (4652042493213278208 : UInt64)), (.double (4652051289306300416 : UInt64))] [(.int (10 : Int32)), (.int i2), (.int (11 : Int32)), (.int (13 : Int32)), (.int (14 : Int32)), (.int (15 : Int32))] e0 (10 : Int32) T1505.heap n0 z1515 f1510 f1509 fu1505 fw1505 (by decide) (by decide) (by decide) (by decide) rfl rfl (by decide) rfl rfl (own_self nn0)) (own_hw hw 16 rfl) (own_hw hw 15 rfl) (by decide) rfl (by rw [hml]; rfl) [(.int (0 : Int32)), (.int (0 : Int32)), (.int (3 : Int32)), (.int (1 : Int32)), (.int (1 : Int32)), (.double d), (.int i2), (.ref b365), (.ref b369), (.ref b1337), (.ref b1401)] 0 (by decide) (Nat.le_of_eq rfl) (by decide) (by decide) (lenOf own_pd3 rfl) rfl rfl 496 rfl (hb hby at_493) fun v1516 T1516 Lc1516 X1516 hQ1516 => ?_
                obtain ⟨rfl, Nq1516, e1516⟩ := hQ1516
                have N1517 := Fr.app N1506 Nq1516
                show own_Go _ _ _ _ _ (State.setTop _ (mkF _ 496 _ [(.int (1 : Int32))]))
                refine own_ifNo X1516 hx 499 rfl (hb hby at_496) (by decide) ?_
                refine own_iconst X1516 hx 500 rfl (hb hby at_499) (1 : Int32) rfl ?_
                refine own_iload X1516 hx 502 rfl (hb hby at_500) rfl ?_
                refine own_iload X1516 hx 504 rfl (hb hby at_502) rfl ?_
                refine own_iload X1516 hx 506 rfl (hb hby at_504) rfl ?_
                refine own_iload X1516 hx 508 rfl (hb hby at_506) rfl ?_
                refine own_dload X1516 hx 510 rfl (hb hby at_508) rfl ?_
                refine own_iloadN X1516 hx 511 rfl (hb hby at_510) rfl ?_
                refine own_aload X1516 hx 513 rfl (hb hby at_511) rfl rfl ?_
                refine own_aload X1516 hx 515 rfl (hb hby at_513) rfl rfl ?_
                refine own_aload X1516 hx 517 rfl (hb hby at_515) rfl rfl ?_
                refine own_aload X1516 hx 519 rfl (hb hby at_517) rfl rfl ?_
                refine own_callS X1516 hx hZ (y := (⟨"com/example/outpost/outpost/model/DistancesKeepNearerPinLaw", "same", "(IIIIZDI[D[I[D[I)Z"⟩ : MethodName)) hown (own_hw hw 13 rfl) (own_hw hw 14 rfl) (by decide) (rm_same_C l Z a0 hw [] (1 : Int32) (0 : Int32) (3 : Int32) (1 : Int32) d i2 b365 b369 b1337 b1401 k365 k369 k1337 k1401 [(.double e0), (.double e1), (.double e2), (.double (4652033697120256000 : UInt64)), (.double (4652042493213278208 : UInt64)), (.double (4652051289306300416 : UInt64))] [(.int (10 : Int32)), (.int (11 : Int32)), (.int (12 : Int32)), (.int (13 : Int32)), (.int (14 : Int32)), (.int (15 : Int32))] [(.double e0), (.double d), (.double e1), (.double (4652033697120256000 : UInt64)), (.double (4652042493213278208 : UInt64)), (.double (4652051289306300416 : UInt64))] [(.int (10 : Int32)), (.int i2), (.int (11 : Int32)), (.int (13 : Int32)), (.int (14 : Int32)), (.int (15 : Int32))] d i2 T1505.heap n0 z1515 f1510 f1509 fu1505 fw1505 (by decide) (by decide) (by decide) (by decide) rfl rfl (by decide) rfl rfl (own_self hd)) (own_hw hw 16 rfl) (own_hw hw 15 rfl) (by decide) e1516 (by rw [hml]; rfl) [(.int (1 : Int32)), (.int (0 : Int32)), (.int (3 : Int32)), (.int (1 : Int32)), (.int (1 : Int32)), (.double d), (.int i2), (.ref b365), (.ref b369), (.ref b1337), (.ref b1401)] 0 (by decide) (Nat.le_of_eq rfl) (by decide) (by decide) (lenOf own_pd3 rfl) rfl rfl 522 rfl (hb hby at_519) fun v1518 T1518 Lc1518 X1518 hQ1518 => ?_
                obtain ⟨rfl, Nq1518, e1518⟩ := hQ1518
                have N1519 := Fr.app N1517 Nq1518
                show own_Go _ _ _ _ _ (State.setTop _ (mkF _ 522 _ [(.int (1 : Int32))]))
                refine own_ifNo X1518 hx 525 rfl (hb hby at_522) (by decide) ?_
                refine own_iconst X1518 hx 526 rfl (hb hby at_525) (2 : Int32) rfl ?_
                refine own_iload X1518 hx 528 rfl (hb hby at_526) rfl ?_
                refine own_iload X1518 hx 530 rfl (hb hby at_528) rfl ?_
                refine own_iload X1518 hx 532 rfl (hb hby at_530) rfl ?_
                refine own_iload X1518 hx 534 rfl (hb hby at_532) rfl ?_
                refine own_dload X1518 hx 536 rfl (hb hby at_534) rfl ?_
                refine own_iloadN X1518 hx 537 rfl (hb hby at_536) rfl ?_
                refine own_aload X1518 hx 539 rfl (hb hby at_537) rfl rfl ?_
                refine own_aload X1518 hx 541 rfl (hb hby at_539) rfl rfl ?_
                refine own_aload X1518 hx 543 rfl (hb hby at_541) rfl rfl ?_
                refine own_aload X1518 hx 545 rfl (hb hby at_543) rfl rfl ?_
                refine own_callS X1518 hx hZ (y := (⟨"com/example/outpost/outpost/model/DistancesKeepNearerPinLaw", "same", "(IIIIZDI[D[I[D[I)Z"⟩ : MethodName)) hown (own_hw hw 13 rfl) (own_hw hw 14 rfl) (by decide) (rm_same_D l Z a0 hw [] (2 : Int32) (0 : Int32) (3 : Int32) (1 : Int32) d i2 b365 b369 b1337 b1401 k365 k369 k1337 k1401 [(.double e0), (.double e1), (.double e2), (.double (4652033697120256000 : UInt64)), (.double (4652042493213278208 : UInt64)), (.double (4652051289306300416 : UInt64))] [(.int (10 : Int32)), (.int (11 : Int32)), (.int (12 : Int32)), (.int (13 : Int32)), (.int (14 : Int32)), (.int (15 : Int32))] [(.double e0), (.double d), (.double e1), (.double (4652033697120256000 : UInt64)), (.double (4652042493213278208 : UInt64)), (.double (4652051289306300416 : UInt64))] [(.int (10 : Int32)), (.int i2), (.int (11 : Int32)), (.int (13 : Int32)), (.int (14 : Int32)), (.int (15 : Int32))] e1 (11 : Int32) T1505.heap n0 z1515 f1510 f1509 fu1505 fw1505 (by decide) (by decide) (by decide) (by decide) (by decide) rfl rfl (by decide) rfl rfl (own_self nn1)) (own_hw hw 16 rfl) (own_hw hw 15 rfl) (by decide) e1518 (by rw [hml]; rfl) [(.int (2 : Int32)), (.int (0 : Int32)), (.int (3 : Int32)), (.int (1 : Int32)), (.int (1 : Int32)), (.double d), (.int i2), (.ref b365), (.ref b369), (.ref b1337), (.ref b1401)] 0 (by decide) (Nat.le_of_eq rfl) (by decide) (by decide) (lenOf own_pd3 rfl) rfl rfl 548 rfl (hb hby at_545) fun v1520 T1520 Lc1520 X1520 hQ1520 => ?_
                obtain ⟨rfl, Nq1520, e1520⟩ := hQ1520
                have N1521 := Fr.app N1519 Nq1520
                show own_Go _ _ _ _ _ (State.setTop _ (mkF _ 548 _ [(.int (1 : Int32))]))
                refine own_ifNo X1520 hx 551 rfl (hb hby at_548) (by decide) ?_
                refine own_iconst X1520 hx 552 rfl (hb hby at_551) (3 : Int32) rfl ?_
                refine own_iload X1520 hx 554 rfl (hb hby at_552) rfl ?_
                refine own_iload X1520 hx 556 rfl (hb hby at_554) rfl ?_
                refine own_iload X1520 hx 558 rfl (hb hby at_556) rfl ?_
                refine own_iload X1520 hx 560 rfl (hb hby at_558) rfl ?_
                refine own_dload X1520 hx 562 rfl (hb hby at_560) rfl ?_
                refine own_iloadN X1520 hx 563 rfl (hb hby at_562) rfl ?_
                refine own_aload X1520 hx 565 rfl (hb hby at_563) rfl rfl ?_
                refine own_aload X1520 hx 567 rfl (hb hby at_565) rfl rfl ?_
                refine own_aload X1520 hx 569 rfl (hb hby at_567) rfl rfl ?_
                refine own_aload X1520 hx 571 rfl (hb hby at_569) rfl rfl ?_
                refine own_callS X1520 hx hZ (y := (⟨"com/example/outpost/outpost/model/DistancesKeepNearerPinLaw", "same", "(IIIIZDI[D[I[D[I)Z"⟩ : MethodName)) hown (own_hw hw 13 rfl) (own_hw hw 14 rfl) (by decide) (rm_same_A3 l Z a0 hw [] (3 : Int32) (0 : Int32) (3 : Int32) (1 : Int32) d i2 b365 b369 b1337 b1401 k365 k369 k1337 k1401 [(.double e0), (.double e1), (.double e2), (.double (4652033697120256000 : UInt64)), (.double (4652042493213278208 : UInt64)), (.double (4652051289306300416 : UInt64))] [(.int (10 : Int32)), (.int (11 : Int32)), (.int (12 : Int32)), (.int (13 : Int32)), (.int (14 : Int32)), (.int (15 : Int32))] [(.double e0), (.double d), (.double e1), (.double (4652033697120256000 : UInt64)), (.double (4652042493213278208 : UInt64)), (.double (4652051289306300416 : UInt64))] [(.int (10 : Int32)), (.int i2), (.int (11 : Int32)), (.int (13 : Int32)), (.int (14 : Int32)), (.int (15 : Int32))] (4652033697120256000 : UInt64) (13 : Int32) T1505.heap n0 z1515 f1510 f1509 fu1505 fw1505 (by decide) (by decide) (by decide) rfl rfl (by decide) rfl rfl (own_self own_cst.2.2.2.1)) (own_hw hw 16 rfl) (own_hw hw 15 rfl) (by decide) e1520 (by rw [hml]; rfl) [(.int (3 : Int32)), (.int (0 : Int32)), (.int (3 : Int32)), (.int (1 : Int32)), (.int (1 : Int32)), (.double d), (.int i2), (.ref b365), (.ref b369), (.ref b1337), (.ref b1401)] 0 (by decide) (Nat.le_of_eq rfl) (by decide) (by decide) (lenOf own_pd3 rfl) rfl rfl 574 rfl (hb hby at_571) fun v1522 T1522 Lc1522 X1522 hQ1522 => ?_
                obtain ⟨rfl, Nq1522, e1522⟩ := hQ1522
                have N1523 := Fr.app N1521 Nq1522
                show own_Go _ _ _ _ _ (State.setTop _ (mkF _ 574 _ [(.int (1 : Int32))]))
                refine own_ifNo X1522 hx 577 rfl (hb hby at_574) (by decide) ?_
                refine own_iconst X1522 hx 578 rfl (hb hby at_577) (4 : Int32) rfl ?_
                refine own_iload X1522 hx 580 rfl (hb hby at_578) rfl ?_
                refine own_iload X1522 hx 582 rfl (hb hby at_580) rfl ?_
                refine own_iload X1522 hx 584 rfl (hb hby at_582) rfl ?_
                refine own_iload X1522 hx 586 rfl (hb hby at_584) rfl ?_
                refine own_dload X1522 hx 588 rfl (hb hby at_586) rfl ?_
                refine own_iloadN X1522 hx 589 rfl (hb hby at_588) rfl ?_
                refine own_aload X1522 hx 591 rfl (hb hby at_589) rfl rfl ?_
                refine own_aload X1522 hx 593 rfl (hb hby at_591) rfl rfl ?_
                refine own_aload X1522 hx 595 rfl (hb hby at_593) rfl rfl ?_
                refine own_aload X1522 hx 597 rfl (hb hby at_595) rfl rfl ?_
                refine own_callS X1522 hx hZ (y := (⟨"com/example/outpost/outpost/model/DistancesKeepNearerPinLaw", "same", "(IIIIZDI[D[I[D[I)Z"⟩ : MethodName)) hown (own_hw hw 13 rfl) (own_hw hw 14 rfl) (by decide) (rm_same_A3 l Z a0 hw [] (4 : Int32) (0 : Int32) (3 : Int32) (1 : Int32) d i2 b365 b369 b1337 b1401 k365 k369 k1337 k1401 [(.double e0), (.double e1), (.double e2), (.double (4652033697120256000 : UInt64)), (.double (4652042493213278208 : UInt64)), (.double (4652051289306300416 : UInt64))] [(.int (10 : Int32)), (.int (11 : Int32)), (.int (12 : Int32)), (.int (13 : Int32)), (.int (14 : Int32)), (.int (15 : Int32))] [(.double e0), (.double d), (.double e1), (.double (4652033697120256000 : UInt64)), (.double (4652042493213278208 : UInt64)), (.double (4652051289306300416 : UInt64))] [(.int (10 : Int32)), (.int i2), (.int (11 : Int32)), (.int (13 : Int32)), (.int (14 : Int32)), (.int (15 : Int32))] (4652042493213278208 : UInt64) (14 : Int32) T1505.heap n0 z1515 f1510 f1509 fu1505 fw1505 (by decide) (by decide) (by decide) rfl rfl (by decide) rfl rfl (own_self own_cst.2.2.2.2.1)) (own_hw hw 16 rfl) (own_hw hw 15 rfl) (by decide) e1522 (by rw [hml]; rfl) [(.int (4 : Int32)), (.int (0 : Int32)), (.int (3 : Int32)), (.int (1 : Int32)), (.int (1 : Int32)), (.double d), (.int i2), (.ref b365), (.ref b369), (.ref b1337), (.ref b1401)] 0 (by decide) (Nat.le_of_eq rfl) (by decide) (by decide) (lenOf own_pd3 rfl) rfl rfl 600 rfl (hb hby at_597) fun v1524 T1524 Lc1524 X1524 hQ1524 => ?_
                obtain ⟨rfl, Nq1524, e1524⟩ := hQ1524
                have N1525 := Fr.app N1523 Nq1524
                show own_Go _ _ _ _ _ (State.setTop _ (mkF _ 600 _ [(.int (1 : Int32))]))
                refine own_ifNo X1524 hx 603 rfl (hb hby at_600) (by decide) ?_
                refine own_iconst X1524 hx 604 rfl (hb hby at_603) (5 : Int32) rfl ?_
                refine own_iload X1524 hx 606 rfl (hb hby at_604) rfl ?_
                refine own_iload X1524 hx 608 rfl (hb hby at_606) rfl ?_
                refine own_iload X1524 hx 610 rfl (hb hby at_608) rfl ?_
                refine own_iload X1524 hx 612 rfl (hb hby at_610) rfl ?_
                refine own_dload X1524 hx 614 rfl (hb hby at_612) rfl ?_
                refine own_iloadN X1524 hx 615 rfl (hb hby at_614) rfl ?_
                refine own_aload X1524 hx 617 rfl (hb hby at_615) rfl rfl ?_
                refine own_aload X1524 hx 619 rfl (hb hby at_617) rfl rfl ?_
                refine own_aload X1524 hx 621 rfl (hb hby at_619) rfl rfl ?_
                refine own_aload X1524 hx 623 rfl (hb hby at_621) rfl rfl ?_
                refine own_callS X1524 hx hZ (y := (⟨"com/example/outpost/outpost/model/DistancesKeepNearerPinLaw", "same", "(IIIIZDI[D[I[D[I)Z"⟩ : MethodName)) hown (own_hw hw 13 rfl) (own_hw hw 14 rfl) (by decide) (rm_same_A3 l Z a0 hw [] (5 : Int32) (0 : Int32) (3 : Int32) (1 : Int32) d i2 b365 b369 b1337 b1401 k365 k369 k1337 k1401 [(.double e0), (.double e1), (.double e2), (.double (4652033697120256000 : UInt64)), (.double (4652042493213278208 : UInt64)), (.double (4652051289306300416 : UInt64))] [(.int (10 : Int32)), (.int (11 : Int32)), (.int (12 : Int32)), (.int (13 : Int32)), (.int (14 : Int32)), (.int (15 : Int32))] [(.double e0), (.double d), (.double e1), (.double (4652033697120256000 : UInt64)), (.double (4652042493213278208 : UInt64)), (.double (4652051289306300416 : UInt64))] [(.int (10 : Int32)), (.int i2), (.int (11 : Int32)), (.int (13 : Int32)), (.int (14 : Int32)), (.int (15 : Int32))] (4652051289306300416 : UInt64) (15 : Int32) T1505.heap n0 z1515 f1510 f1509 fu1505 fw1505 (by decide) (by decide) (by decide) rfl rfl (by decide) rfl rfl (own_self own_cst.2.2.2.2.2)) (own_hw hw 16 rfl) (own_hw hw 15 rfl) (by decide) e1524 (by rw [hml]; rfl) [(.int (5 : Int32)), (.int (0 : Int32)), (.int (3 : Int32)), (.int (1 : Int32)), (.int (1 : Int32)), (.double d), (.int i2), (.ref b365), (.ref b369), (.ref b1337), (.ref b1401)] 0 (by decide) (Nat.le_of_eq rfl) (by decide) (by decide) (lenOf own_pd3 rfl) rfl rfl 626 rfl (hb hby at_623) fun v1526 T1526 Lc1526 X1526 hQ1526 => ?_
                obtain ⟨rfl, Nq1526, e1526⟩ := hQ1526
                have N1527 := Fr.app N1525 Nq1526
                show own_Go _ _ _ _ _ (State.setTop _ (mkF _ 626 _ [(.int (1 : Int32))]))
                refine own_ifNo X1526 hx 629 rfl (hb hby at_626) (by decide) ?_
                refine own_iconst X1526 hx 630 rfl (hb hby at_629) (1 : Int32) rfl ?_
                refine own_goto X1526 hx 634 (hb hby at_630) (by decide) rfl ?_
                refine own_ret X1526 (some (.int (1 : Int32))) (fun h => by rw [Bd.returns] at h; cases h) Bd.notSynchronized (by decide) (by decide) ?_ (fun fs hr => retN X1526 hx (t := .boolean) Bd.returns (by simp) (hb hby at_634) hr)
                show Q_rm0 Z i0 i1 i2 h0 n0 _ T1526.heap _
                rw [e1526]
                exact ⟨rfl, N1527⟩
              ·
                by_cases hc1528 : own_z d < own_z e2
                ·
                  refine own_dcmp X1469 hx 379 rfl (hb hby at_378) _ rfl ?_
                  refine own_ifNo X1469 hx 382 rfl (hb hby at_379) ((if0 _ _).trans (tlt (own_cg hd nn2 hc1528 .g)).2.1) ?_
                  refine own_iconst X1469 hx 383 rfl (hb hby at_382) (1 : Int32) rfl ?_
                  refine own_goto X1469 hx 387 (hb hby at_383) (by decide) rfl ?_
                  refine own_istore X1469 hx 389 rfl (hb hby at_387) #[.val (.int i0), .val (.int i1), .val (.int i2), .val (.double (9218868437227405312 : UInt64)), .second, .val (.int (3 : Int32)), .val (.int (0 : Int32)), .val (.int (own_k i0)), .val (.int f8), .val (.int (own_a0 i1)), .val (.int (own_a1 i1)), .val (.int (own_a2 i1)), .val (.double d), .second, .val (.ref b365), .val (.ref b369), .val (.int (0 : Int32)), .val (.ref b1337), .val (.ref b1401), .val (.int (1 : Int32)), .unset, .unset] rfl ?_
                  refine own_iconst X1469 hx 390 rfl (hb hby at_389) (0 : Int32) rfl ?_
                  refine own_istore X1469 hx 392 rfl (hb hby at_390) #[.val (.int i0), .val (.int i1), .val (.int i2), .val (.double (9218868437227405312 : UInt64)), .second, .val (.int (3 : Int32)), .val (.int (0 : Int32)), .val (.int (own_k i0)), .val (.int f8), .val (.int (own_a0 i1)), .val (.int (own_a1 i1)), .val (.int (own_a2 i1)), .val (.double d), .second, .val (.ref b365), .val (.ref b369), .val (.int (0 : Int32)), .val (.ref b1337), .val (.ref b1401), .val (.int (1 : Int32)), .val (.int (0 : Int32)), .unset] rfl ?_
                  refine own_aload X1469 hx 394 rfl (hb hby at_392) rfl rfl ?_
                  refine own_iload X1469 hx 396 rfl (hb hby at_394) rfl ?_
                  refine own_ldD X1469 hx hZ e1469 f1474 ⟨by decide, by decide⟩ e0 rfl 397 rfl (hb hby at_396) ?_
                  refine own_dload X1469 hx 399 rfl (hb hby at_397) rfl ?_
                  refine own_dcmp X1469 hx 400 rfl (hb hby at_399) _ rfl ?_
                  refine own_ifNo X1469 hx 403 rfl (hb hby at_400) ((if0 _ _).trans (flt (own_cmp_le nn0 hd (Int.not_lt.mp hc1480) .g)).2.2.1) ?_
                  refine own_iinc X1469 hx 406 rfl (hb hby at_403) rfl #[.val (.int i0), .val (.int i1), .val (.int i2), .val (.double (9218868437227405312 : UInt64)), .second, .val (.int (3 : Int32)), .val (.int (0 : Int32)), .val (.int (own_k i0)), .val (.int f8), .val (.int (own_a0 i1)), .val (.int (own_a1 i1)), .val (.int (own_a2 i1)), .val (.double d), .second, .val (.ref b365), .val (.ref b369), .val (.int (0 : Int32)), .val (.ref b1337), .val (.ref b1401), .val (.int (1 : Int32)), .val (.int (1 : Int32)), .unset] rfl ?_
                  refine own_iload X1469 hx 408 rfl (hb hby at_406) rfl ?_
                  refine own_iconst X1469 hx 409 rfl (hb hby at_408) (2 : Int32) rfl ?_
                  refine own_icmpNo X1469 hx 412 rfl (hb hby at_409) (by decide) ?_
                  refine own_aload X1469 hx 414 rfl (hb hby at_412) rfl rfl ?_
                  refine own_iload X1469 hx 416 rfl (hb hby at_414) rfl ?_
                  refine own_iconst X1469 hx 417 rfl (hb hby at_416) (1 : Int32) rfl ?_
                  refine own_iadd X1469 hx 418 rfl (hb hby at_417) (1 : Int32) rfl ?_
                  refine own_ldD X1469 hx hZ e1469 f1474 ⟨by decide, by decide⟩ e1 rfl 419 rfl (hb hby at_418) ?_
                  refine own_dload X1469 hx 421 rfl (hb hby at_419) rfl ?_
                  refine own_dcmp X1469 hx 422 rfl (hb hby at_421) _ rfl ?_
                  refine own_ifNo X1469 hx 425 rfl (hb hby at_422) ((if0 _ _).trans (flt (own_cmp_le nn1 hd (Int.not_lt.mp hc1504) .g)).2.2.1) ?_
                  refine own_iinc X1469 hx 428 rfl (hb hby at_425) rfl #[.val (.int i0), .val (.int i1), .val (.int i2), .val (.double (9218868437227405312 : UInt64)), .second, .val (.int (3 : Int32)), .val (.int (0 : Int32)), .val (.int (own_k i0)), .val (.int f8), .val (.int (own_a0 i1)), .val (.int (own_a1 i1)), .val (.int (own_a2 i1)), .val (.double d), .second, .val (.ref b365), .val (.ref b369), .val (.int (0 : Int32)), .val (.ref b1337), .val (.ref b1401), .val (.int (1 : Int32)), .val (.int (2 : Int32)), .unset] rfl ?_
                  refine own_iload X1469 hx 430 rfl (hb hby at_428) rfl ?_
                  refine own_iconst X1469 hx 431 rfl (hb hby at_430) (3 : Int32) rfl ?_
                  refine own_icmpNo X1469 hx 434 rfl (hb hby at_431) (by decide) ?_
                  refine own_aload X1469 hx 436 rfl (hb hby at_434) rfl rfl ?_
                  refine own_iload X1469 hx 438 rfl (hb hby at_436) rfl ?_
                  refine own_iconst X1469 hx 439 rfl (hb hby at_438) (2 : Int32) rfl ?_
                  refine own_iadd X1469 hx 440 rfl (hb hby at_439) (2 : Int32) rfl ?_
                  refine own_ldD X1469 hx hZ e1469 f1474 ⟨by decide, by decide⟩ e2 rfl 441 rfl (hb hby at_440) ?_
                  refine own_dload X1469 hx 443 rfl (hb hby at_441) rfl ?_
                  refine own_dcmp X1469 hx 444 rfl (hb hby at_443) _ rfl ?_
                  refine own_ifYes X1469 hx 450 (hb hby at_444) ((if0 _ _).trans (tlt (own_cp nn2 hd hc1528 .g)).2.2.1) (by decide) rfl ?_
                  refine own_iloadN X1469 hx 451 rfl (hb hby at_450) rfl ?_
                  refine own_dload X1469 hx 453 rfl (hb hby at_451) rfl ?_
                  refine own_iload X1469 hx 455 rfl (hb hby at_453) rfl ?_
                  refine own_iload X1469 hx 457 rfl (hb hby at_455) rfl ?_
                  refine own_aload X1469 hx 459 rfl (hb hby at_457) rfl rfl ?_
                  refine own_aload X1469 hx 461 rfl (hb hby at_459) rfl rfl ?_
                  refine own_callS X1469 hx hZ (y := (⟨"com/example/outpost/outpost/model/Distances", "keepNearer", "(IDII[D[I)Z"⟩ : MethodName)) hown (own_hw hw 9 rfl) (own_hw hw 10 rfl) (by decide) (rm_keep_3_0_2 l Z a0 hw [] i2 d b1337 b1401 k1337 k1401 e0 e1 e2 (4652033697120256000 : UInt64) (4652042493213278208 : UInt64) (4652051289306300416 : UInt64) (10 : Int32) (11 : Int32) (12 : Int32) (13 : Int32) (14 : Int32) (15 : Int32) h1469 n0 z1478 f1476 f1470 ne1404 ge1340 ge1405 (own_cg hd nn2 hc1528 .g) (own_cmp_le nn1 hd (Int.not_lt.mp hc1504) .l)) (own_hw hw 12 rfl) (own_hw hw 11 rfl) (by decide) e1469 (by rw [hml]; rfl) [(.int i2), (.double d), (.int (0 : Int32)), (.int (3 : Int32)), (.ref b1337), (.ref b1401)] 0 (by decide) (Nat.le_of_eq rfl) (by decide) (by decide) (lenOf own_pd2 rfl) rfl rfl 464 rfl (hb hby at_461) fun v1529 T1529 Lc1529 X1529 hQ1529 => ?_
                  obtain ⟨rfl, Nq1529, Kq1529, fu1529, fw1529⟩ := hQ1529
                  have N1530 := Fr.app N1479 Nq1529
                  have f1531 := f1471.keep Kq1529
                  have f1532 := f1472.keep Kq1529
                  have f1533 := f1473.keep Kq1529 (ninS ne1339 (ninS ne1403 nin0))
                  have f1534 := f1474.keep Kq1529 (ninS ne1338 (ninS ne1402 nin0))
                  have f1535 := f1475.keep Kq1529
                  have f1537 := f1477.keep Kq1529
                  have z1539 := Nat.le_trans z1478 Kq1529.1
                  show own_Go _ _ _ _ _ (State.setTop _ (mkF _ 464 _ [(.int (1 : Int32))]))
                  refine own_istore X1529 hx 466 rfl (hb hby at_464) #[.val (.int i0), .val (.int i1), .val (.int i2), .val (.double (9218868437227405312 : UInt64)), .second, .val (.int (3 : Int32)), .val (.int (0 : Int32)), .val (.int (own_k i0)), .val (.int f8), .val (.int (own_a0 i1)), .val (.int (own_a1 i1)), .val (.int (own_a2 i1)), .val (.double d), .second, .val (.ref b365), .val (.ref b369), .val (.int (0 : Int32)), .val (.ref b1337), .val (.ref b1401), .val (.int (1 : Int32)), .val (.int (2 : Int32)), .val (.int (1 : Int32))] rfl ?_
                  refine own_iload X1529 hx 468 rfl (hb hby at_466) rfl ?_
                  refine own_iload X1529 hx 470 rfl (hb hby at_468) rfl ?_
                  refine own_icmpNo X1529 hx 473 rfl (hb hby at_470) (by decide) ?_
                  refine own_iconst X1529 hx 474 rfl (hb hby at_473) (0 : Int32) rfl ?_
                  refine own_iload X1529 hx 476 rfl (hb hby at_474) rfl ?_
                  refine own_iload X1529 hx 478 rfl (hb hby at_476) rfl ?_
                  refine own_iload X1529 hx 480 rfl (hb hby at_478) rfl ?_
                  refine own_iload X1529 hx 482 rfl (hb hby at_480) rfl ?_
                  refine own_dload X1529 hx 484 rfl (hb hby at_482) rfl ?_
                  refine own_iloadN X1529 hx 485 rfl (hb hby at_484) rfl ?_
                  refine own_aload X1529 hx 487 rfl (hb hby at_485) rfl rfl ?_
                  refine own_aload X1529 hx 489 rfl (hb hby at_487) rfl rfl ?_
                  refine own_aload X1529 hx 491 rfl (hb hby at_489) rfl rfl ?_
                  refine own_aload X1529 hx 493 rfl (hb hby at_491) rfl rfl ?_
                  refine own_callS X1529 hx hZ (y := (⟨"com/example/outpost/outpost/model/DistancesKeepNearerPinLaw", "same", "(IIIIZDI[D[I[D[I)Z"⟩ : MethodName)) hown (own_hw hw 13 rfl) (own_hw hw 14 rfl) (by decide) (rm_same_B l Z a0 hw [] (0 : Int32) (0 : Int32) (3 : Int32) (2 : Int32) d i2 b365 b369 b1337 b1401 k365 k369 k1337 k1401 [(.double e0), (.double e1), (.double e2), (.double (4652033697120256000 : UInt64)), (.double (4652042493213278208 : UInt64)), (.double (4652051289306300416 : UInt64))] [(.int (10 : Int32)), (.int (11 : Int32)), (.int (12 : Int32)), (.int (13 : Int32)), (.int (14 : Int32)), (.int (15 : Int32))] [(.double e0), (.double e1), (.double d), (.double (4652033697120256000 : UInt64)), (.double (4652042493213278208 : UInt64)), (.double (4652051289306300416 : UInt64))] [(.int (10 : Int32)), (.int (11 : Int32)), (.int i2), (.int (13 : Int32)), (.int (14 : Int32)), (.int (15 : Int32))] e0 (10 : Int32) T1529.heap n0 z1539 f1534 f1533 fu1529 fw1529 (by decide) (by decide) (by decide) (by decide) rfl rfl (by decide) rfl rfl (own_self nn0)) (own_hw hw 16 rfl) (own_hw hw 15 rfl) (by decide) rfl (by rw [hml]; rfl) [(.int (0 : Int32)), (.int (0 : Int32)), (.int (3 : Int32)), (.int (2 : Int32)), (.int (1 : Int32)), (.double d), (.int i2), (.ref b365), (.ref b369), (.ref b1337), (.ref b1401)] 0 (by decide) (Nat.le_of_eq rfl) (by decide) (by decide) (lenOf own_pd3 rfl) rfl rfl 496 rfl (hb hby at_493) fun v1540 T1540 Lc1540 X1540 hQ1540 => ?_
                  obtain ⟨rfl, Nq1540, e1540⟩ := hQ1540
                  have N1541 := Fr.app N1530 Nq1540
                  show own_Go _ _ _ _ _ (State.setTop _ (mkF _ 496 _ [(.int (1 : Int32))]))
                  refine own_ifNo X1540 hx 499 rfl (hb hby at_496) (by decide) ?_
                  refine own_iconst X1540 hx 500 rfl (hb hby at_499) (1 : Int32) rfl ?_
                  refine own_iload X1540 hx 502 rfl (hb hby at_500) rfl ?_
                  refine own_iload X1540 hx 504 rfl (hb hby at_502) rfl ?_
                  refine own_iload X1540 hx 506 rfl (hb hby at_504) rfl ?_
                  refine own_iload X1540 hx 508 rfl (hb hby at_506) rfl ?_
                  refine own_dload X1540 hx 510 rfl (hb hby at_508) rfl ?_
                  refine own_iloadN X1540 hx 511 rfl (hb hby at_510) rfl ?_
                  refine own_aload X1540 hx 513 rfl (hb hby at_511) rfl rfl ?_
                  refine own_aload X1540 hx 515 rfl (hb hby at_513) rfl rfl ?_
                  refine own_aload X1540 hx 517 rfl (hb hby at_515) rfl rfl ?_
                  refine own_aload X1540 hx 519 rfl (hb hby at_517) rfl rfl ?_
                  refine own_callS X1540 hx hZ (y := (⟨"com/example/outpost/outpost/model/DistancesKeepNearerPinLaw", "same", "(IIIIZDI[D[I[D[I)Z"⟩ : MethodName)) hown (own_hw hw 13 rfl) (own_hw hw 14 rfl) (by decide) (rm_same_B l Z a0 hw [] (1 : Int32) (0 : Int32) (3 : Int32) (2 : Int32) d i2 b365 b369 b1337 b1401 k365 k369 k1337 k1401 [(.double e0), (.double e1), (.double e2), (.double (4652033697120256000 : UInt64)), (.double (4652042493213278208 : UInt64)), (.double (4652051289306300416 : UInt64))] [(.int (10 : Int32)), (.int (11 : Int32)), (.int (12 : Int32)), (.int (13 : Int32)), (.int (14 : Int32)), (.int (15 : Int32))] [(.double e0), (.double e1), (.double d), (.double (4652033697120256000 : UInt64)), (.double (4652042493213278208 : UInt64)), (.double (4652051289306300416 : UInt64))] [(.int (10 : Int32)), (.int (11 : Int32)), (.int i2), (.int (13 : Int32)), (.int (14 : Int32)), (.int (15 : Int32))] e1 (11 : Int32) T1529.heap n0 z1539 f1534 f1533 fu1529 fw1529 (by decide) (by decide) (by decide) (by decide) rfl rfl (by decide) rfl rfl (own_self nn1)) (own_hw hw 16 rfl) (own_hw hw 15 rfl) (by decide) e1540 (by rw [hml]; rfl) [(.int (1 : Int32)), (.int (0 : Int32)), (.int (3 : Int32)), (.int (2 : Int32)), (.int (1 : Int32)), (.double d), (.int i2), (.ref b365), (.ref b369), (.ref b1337), (.ref b1401)] 0 (by decide) (Nat.le_of_eq rfl) (by decide) (by decide) (lenOf own_pd3 rfl) rfl rfl 522 rfl (hb hby at_519) fun v1542 T1542 Lc1542 X1542 hQ1542 => ?_
                  obtain ⟨rfl, Nq1542, e1542⟩ := hQ1542
                  have N1543 := Fr.app N1541 Nq1542
                  show own_Go _ _ _ _ _ (State.setTop _ (mkF _ 522 _ [(.int (1 : Int32))]))
                  refine own_ifNo X1542 hx 525 rfl (hb hby at_522) (by decide) ?_
                  refine own_iconst X1542 hx 526 rfl (hb hby at_525) (2 : Int32) rfl ?_
                  refine own_iload X1542 hx 528 rfl (hb hby at_526) rfl ?_
                  refine own_iload X1542 hx 530 rfl (hb hby at_528) rfl ?_
                  refine own_iload X1542 hx 532 rfl (hb hby at_530) rfl ?_
                  refine own_iload X1542 hx 534 rfl (hb hby at_532) rfl ?_
                  refine own_dload X1542 hx 536 rfl (hb hby at_534) rfl ?_
                  refine own_iloadN X1542 hx 537 rfl (hb hby at_536) rfl ?_
                  refine own_aload X1542 hx 539 rfl (hb hby at_537) rfl rfl ?_
                  refine own_aload X1542 hx 541 rfl (hb hby at_539) rfl rfl ?_
                  refine own_aload X1542 hx 543 rfl (hb hby at_541) rfl rfl ?_
                  refine own_aload X1542 hx 545 rfl (hb hby at_543) rfl rfl ?_
                  refine own_callS X1542 hx hZ (y := (⟨"com/example/outpost/outpost/model/DistancesKeepNearerPinLaw", "same", "(IIIIZDI[D[I[D[I)Z"⟩ : MethodName)) hown (own_hw hw 13 rfl) (own_hw hw 14 rfl) (by decide) (rm_same_C l Z a0 hw [] (2 : Int32) (0 : Int32) (3 : Int32) (2 : Int32) d i2 b365 b369 b1337 b1401 k365 k369 k1337 k1401 [(.double e0), (.double e1), (.double e2), (.double (4652033697120256000 : UInt64)), (.double (4652042493213278208 : UInt64)), (.double (4652051289306300416 : UInt64))] [(.int (10 : Int32)), (.int (11 : Int32)), (.int (12 : Int32)), (.int (13 : Int32)), (.int (14 : Int32)), (.int (15 : Int32))] [(.double e0), (.double e1), (.double d), (.double (4652033697120256000 : UInt64)), (.double (4652042493213278208 : UInt64)), (.double (4652051289306300416 : UInt64))] [(.int (10 : Int32)), (.int (11 : Int32)), (.int i2), (.int (13 : Int32)), (.int (14 : Int32)), (.int (15 : Int32))] d i2 T1529.heap n0 z1539 f1534 f1533 fu1529 fw1529 (by decide) (by decide) (by decide) (by decide) rfl rfl (by decide) rfl rfl (own_self hd)) (own_hw hw 16 rfl) (own_hw hw 15 rfl) (by decide) e1542 (by rw [hml]; rfl) [(.int (2 : Int32)), (.int (0 : Int32)), (.int (3 : Int32)), (.int (2 : Int32)), (.int (1 : Int32)), (.double d), (.int i2), (.ref b365), (.ref b369), (.ref b1337), (.ref b1401)] 0 (by decide) (Nat.le_of_eq rfl) (by decide) (by decide) (lenOf own_pd3 rfl) rfl rfl 548 rfl (hb hby at_545) fun v1544 T1544 Lc1544 X1544 hQ1544 => ?_
                  obtain ⟨rfl, Nq1544, e1544⟩ := hQ1544
                  have N1545 := Fr.app N1543 Nq1544
                  show own_Go _ _ _ _ _ (State.setTop _ (mkF _ 548 _ [(.int (1 : Int32))]))
                  refine own_ifNo X1544 hx 551 rfl (hb hby at_548) (by decide) ?_
                  refine own_iconst X1544 hx 552 rfl (hb hby at_551) (3 : Int32) rfl ?_
                  refine own_iload X1544 hx 554 rfl (hb hby at_552) rfl ?_
                  refine own_iload X1544 hx 556 rfl (hb hby at_554) rfl ?_
                  refine own_iload X1544 hx 558 rfl (hb hby at_556) rfl ?_
                  refine own_iload X1544 hx 560 rfl (hb hby at_558) rfl ?_
                  refine own_dload X1544 hx 562 rfl (hb hby at_560) rfl ?_
                  refine own_iloadN X1544 hx 563 rfl (hb hby at_562) rfl ?_
                  refine own_aload X1544 hx 565 rfl (hb hby at_563) rfl rfl ?_
                  refine own_aload X1544 hx 567 rfl (hb hby at_565) rfl rfl ?_
                  refine own_aload X1544 hx 569 rfl (hb hby at_567) rfl rfl ?_
                  refine own_aload X1544 hx 571 rfl (hb hby at_569) rfl rfl ?_
                  refine own_callS X1544 hx hZ (y := (⟨"com/example/outpost/outpost/model/DistancesKeepNearerPinLaw", "same", "(IIIIZDI[D[I[D[I)Z"⟩ : MethodName)) hown (own_hw hw 13 rfl) (own_hw hw 14 rfl) (by decide) (rm_same_A3 l Z a0 hw [] (3 : Int32) (0 : Int32) (3 : Int32) (2 : Int32) d i2 b365 b369 b1337 b1401 k365 k369 k1337 k1401 [(.double e0), (.double e1), (.double e2), (.double (4652033697120256000 : UInt64)), (.double (4652042493213278208 : UInt64)), (.double (4652051289306300416 : UInt64))] [(.int (10 : Int32)), (.int (11 : Int32)), (.int (12 : Int32)), (.int (13 : Int32)), (.int (14 : Int32)), (.int (15 : Int32))] [(.double e0), (.double e1), (.double d), (.double (4652033697120256000 : UInt64)), (.double (4652042493213278208 : UInt64)), (.double (4652051289306300416 : UInt64))] [(.int (10 : Int32)), (.int (11 : Int32)), (.int i2), (.int (13 : Int32)), (.int (14 : Int32)), (.int (15 : Int32))] (4652033697120256000 : UInt64) (13 : Int32) T1529.heap n0 z1539 f1534 f1533 fu1529 fw1529 (by decide) (by decide) (by decide) rfl rfl (by decide) rfl rfl (own_self own_cst.2.2.2.1)) (own_hw hw 16 rfl) (own_hw hw 15 rfl) (by decide) e1544 (by rw [hml]; rfl) [(.int (3 : Int32)), (.int (0 : Int32)), (.int (3 : Int32)), (.int (2 : Int32)), (.int (1 : Int32)), (.double d), (.int i2), (.ref b365), (.ref b369), (.ref b1337), (.ref b1401)] 0 (by decide) (Nat.le_of_eq rfl) (by decide) (by decide) (lenOf own_pd3 rfl) rfl rfl 574 rfl (hb hby at_571) fun v1546 T1546 Lc1546 X1546 hQ1546 => ?_
                  obtain ⟨rfl, Nq1546, e1546⟩ := hQ1546
                  have N1547 := Fr.app N1545 Nq1546
                  show own_Go _ _ _ _ _ (State.setTop _ (mkF _ 574 _ [(.int (1 : Int32))]))
                  refine own_ifNo X1546 hx 577 rfl (hb hby at_574) (by decide) ?_
                  refine own_iconst X1546 hx 578 rfl (hb hby at_577) (4 : Int32) rfl ?_
                  refine own_iload X1546 hx 580 rfl (hb hby at_578) rfl ?_
                  refine own_iload X1546 hx 582 rfl (hb hby at_580) rfl ?_
                  refine own_iload X1546 hx 584 rfl (hb hby at_582) rfl ?_
                  refine own_iload X1546 hx 586 rfl (hb hby at_584) rfl ?_
                  refine own_dload X1546 hx 588 rfl (hb hby at_586) rfl ?_
                  refine own_iloadN X1546 hx 589 rfl (hb hby at_588) rfl ?_
                  refine own_aload X1546 hx 591 rfl (hb hby at_589) rfl rfl ?_
                  refine own_aload X1546 hx 593 rfl (hb hby at_591) rfl rfl ?_
                  refine own_aload X1546 hx 595 rfl (hb hby at_593) rfl rfl ?_
                  refine own_aload X1546 hx 597 rfl (hb hby at_595) rfl rfl ?_
                  refine own_callS X1546 hx hZ (y := (⟨"com/example/outpost/outpost/model/DistancesKeepNearerPinLaw", "same", "(IIIIZDI[D[I[D[I)Z"⟩ : MethodName)) hown (own_hw hw 13 rfl) (own_hw hw 14 rfl) (by decide) (rm_same_A3 l Z a0 hw [] (4 : Int32) (0 : Int32) (3 : Int32) (2 : Int32) d i2 b365 b369 b1337 b1401 k365 k369 k1337 k1401 [(.double e0), (.double e1), (.double e2), (.double (4652033697120256000 : UInt64)), (.double (4652042493213278208 : UInt64)), (.double (4652051289306300416 : UInt64))] [(.int (10 : Int32)), (.int (11 : Int32)), (.int (12 : Int32)), (.int (13 : Int32)), (.int (14 : Int32)), (.int (15 : Int32))] [(.double e0), (.double e1), (.double d), (.double (4652033697120256000 : UInt64)), (.double (4652042493213278208 : UInt64)), (.double (4652051289306300416 : UInt64))] [(.int (10 : Int32)), (.int (11 : Int32)), (.int i2), (.int (13 : Int32)), (.int (14 : Int32)), (.int (15 : Int32))] (4652042493213278208 : UInt64) (14 : Int32) T1529.heap n0 z1539 f1534 f1533 fu1529 fw1529 (by decide) (by decide) (by decide) rfl rfl (by decide) rfl rfl (own_self own_cst.2.2.2.2.1)) (own_hw hw 16 rfl) (own_hw hw 15 rfl) (by decide) e1546 (by rw [hml]; rfl) [(.int (4 : Int32)), (.int (0 : Int32)), (.int (3 : Int32)), (.int (2 : Int32)), (.int (1 : Int32)), (.double d), (.int i2), (.ref b365), (.ref b369), (.ref b1337), (.ref b1401)] 0 (by decide) (Nat.le_of_eq rfl) (by decide) (by decide) (lenOf own_pd3 rfl) rfl rfl 600 rfl (hb hby at_597) fun v1548 T1548 Lc1548 X1548 hQ1548 => ?_
                  obtain ⟨rfl, Nq1548, e1548⟩ := hQ1548
                  have N1549 := Fr.app N1547 Nq1548
                  show own_Go _ _ _ _ _ (State.setTop _ (mkF _ 600 _ [(.int (1 : Int32))]))
                  refine own_ifNo X1548 hx 603 rfl (hb hby at_600) (by decide) ?_
                  refine own_iconst X1548 hx 604 rfl (hb hby at_603) (5 : Int32) rfl ?_
                  refine own_iload X1548 hx 606 rfl (hb hby at_604) rfl ?_
                  refine own_iload X1548 hx 608 rfl (hb hby at_606) rfl ?_
                  refine own_iload X1548 hx 610 rfl (hb hby at_608) rfl ?_
                  refine own_iload X1548 hx 612 rfl (hb hby at_610) rfl ?_
                  refine own_dload X1548 hx 614 rfl (hb hby at_612) rfl ?_
                  refine own_iloadN X1548 hx 615 rfl (hb hby at_614) rfl ?_
                  refine own_aload X1548 hx 617 rfl (hb hby at_615) rfl rfl ?_
                  refine own_aload X1548 hx 619 rfl (hb hby at_617) rfl rfl ?_
                  refine own_aload X1548 hx 621 rfl (hb hby at_619) rfl rfl ?_
                  refine own_aload X1548 hx 623 rfl (hb hby at_621) rfl rfl ?_
                  refine own_callS X1548 hx hZ (y := (⟨"com/example/outpost/outpost/model/DistancesKeepNearerPinLaw", "same", "(IIIIZDI[D[I[D[I)Z"⟩ : MethodName)) hown (own_hw hw 13 rfl) (own_hw hw 14 rfl) (by decide) (rm_same_A3 l Z a0 hw [] (5 : Int32) (0 : Int32) (3 : Int32) (2 : Int32) d i2 b365 b369 b1337 b1401 k365 k369 k1337 k1401 [(.double e0), (.double e1), (.double e2), (.double (4652033697120256000 : UInt64)), (.double (4652042493213278208 : UInt64)), (.double (4652051289306300416 : UInt64))] [(.int (10 : Int32)), (.int (11 : Int32)), (.int (12 : Int32)), (.int (13 : Int32)), (.int (14 : Int32)), (.int (15 : Int32))] [(.double e0), (.double e1), (.double d), (.double (4652033697120256000 : UInt64)), (.double (4652042493213278208 : UInt64)), (.double (4652051289306300416 : UInt64))] [(.int (10 : Int32)), (.int (11 : Int32)), (.int i2), (.int (13 : Int32)), (.int (14 : Int32)), (.int (15 : Int32))] (4652051289306300416 : UInt64) (15 : Int32) T1529.heap n0 z1539 f1534 f1533 fu1529 fw1529 (by decide) (by decide) (by decide) rfl rfl (by decide) rfl rfl (own_self own_cst.2.2.2.2.2)) (own_hw hw 16 rfl) (own_hw hw 15 rfl) (by decide) e1548 (by rw [hml]; rfl) [(.int (5 : Int32)), (.int (0 : Int32)), (.int (3 : Int32)), (.int (2 : Int32)), (.int (1 : Int32)), (.double d), (.int i2), (.ref b365), (.ref b369), (.ref b1337), (.ref b1401)] 0 (by decide) (Nat.le_of_eq rfl) (by decide) (by decide) (lenOf own_pd3 rfl) rfl rfl 626 rfl (hb hby at_623) fun v1550 T1550 Lc1550 X1550 hQ1550 => ?_
                  obtain ⟨rfl, Nq1550, e1550⟩ := hQ1550
                  have N1551 := Fr.app N1549 Nq1550
                  show own_Go _ _ _ _ _ (State.setTop _ (mkF _ 626 _ [(.int (1 : Int32))]))
                  refine own_ifNo X1550 hx 629 rfl (hb hby at_626) (by decide) ?_
                  refine own_iconst X1550 hx 630 rfl (hb hby at_629) (1 : Int32) rfl ?_
                  refine own_goto X1550 hx 634 (hb hby at_630) (by decide) rfl ?_
                  refine own_ret X1550 (some (.int (1 : Int32))) (fun h => by rw [Bd.returns] at h; cases h) Bd.notSynchronized (by decide) (by decide) ?_ (fun fs hr => retN X1550 hx (t := .boolean) Bd.returns (by simp) (hb hby at_634) hr)
                  show Q_rm0 Z i0 i1 i2 h0 n0 _ T1550.heap _
                  rw [e1550]
                  exact ⟨rfl, N1551⟩
                ·
                  refine own_dcmp X1469 hx 379 rfl (hb hby at_378) _ rfl ?_
                  refine own_ifYes X1469 hx 386 (hb hby at_379) ((if0 _ _).trans (flt (own_cmp_ge hd nn2 (Int.not_lt.mp hc1528) .g)).2.1) (by decide) rfl ?_
                  refine own_iconst X1469 hx 387 rfl (hb hby at_386) (0 : Int32) rfl ?_
                  refine own_istore X1469 hx 389 rfl (hb hby at_387) #[.val (.int i0), .val (.int i1), .val (.int i2), .val (.double (9218868437227405312 : UInt64)), .second, .val (.int (3 : Int32)), .val (.int (0 : Int32)), .val (.int (own_k i0)), .val (.int f8), .val (.int (own_a0 i1)), .val (.int (own_a1 i1)), .val (.int (own_a2 i1)), .val (.double d), .second, .val (.ref b365), .val (.ref b369), .val (.int (0 : Int32)), .val (.ref b1337), .val (.ref b1401), .val (.int (0 : Int32)), .unset, .unset] rfl ?_
                  refine own_iconst X1469 hx 390 rfl (hb hby at_389) (0 : Int32) rfl ?_
                  refine own_istore X1469 hx 392 rfl (hb hby at_390) #[.val (.int i0), .val (.int i1), .val (.int i2), .val (.double (9218868437227405312 : UInt64)), .second, .val (.int (3 : Int32)), .val (.int (0 : Int32)), .val (.int (own_k i0)), .val (.int f8), .val (.int (own_a0 i1)), .val (.int (own_a1 i1)), .val (.int (own_a2 i1)), .val (.double d), .second, .val (.ref b365), .val (.ref b369), .val (.int (0 : Int32)), .val (.ref b1337), .val (.ref b1401), .val (.int (0 : Int32)), .val (.int (0 : Int32)), .unset] rfl ?_
                  refine own_aload X1469 hx 394 rfl (hb hby at_392) rfl rfl ?_
                  refine own_iload X1469 hx 396 rfl (hb hby at_394) rfl ?_
                  refine own_ldD X1469 hx hZ e1469 f1474 ⟨by decide, by decide⟩ e0 rfl 397 rfl (hb hby at_396) ?_
                  refine own_dload X1469 hx 399 rfl (hb hby at_397) rfl ?_
                  refine own_dcmp X1469 hx 400 rfl (hb hby at_399) _ rfl ?_
                  refine own_ifNo X1469 hx 403 rfl (hb hby at_400) ((if0 _ _).trans (flt (own_cmp_le nn0 hd (Int.not_lt.mp hc1480) .g)).2.2.1) ?_
                  refine own_iinc X1469 hx 406 rfl (hb hby at_403) rfl #[.val (.int i0), .val (.int i1), .val (.int i2), .val (.double (9218868437227405312 : UInt64)), .second, .val (.int (3 : Int32)), .val (.int (0 : Int32)), .val (.int (own_k i0)), .val (.int f8), .val (.int (own_a0 i1)), .val (.int (own_a1 i1)), .val (.int (own_a2 i1)), .val (.double d), .second, .val (.ref b365), .val (.ref b369), .val (.int (0 : Int32)), .val (.ref b1337), .val (.ref b1401), .val (.int (0 : Int32)), .val (.int (1 : Int32)), .unset] rfl ?_
                  refine own_iload X1469 hx 408 rfl (hb hby at_406) rfl ?_
                  refine own_iconst X1469 hx 409 rfl (hb hby at_408) (2 : Int32) rfl ?_
                  refine own_icmpNo X1469 hx 412 rfl (hb hby at_409) (by decide) ?_
                  refine own_aload X1469 hx 414 rfl (hb hby at_412) rfl rfl ?_
                  refine own_iload X1469 hx 416 rfl (hb hby at_414) rfl ?_
                  refine own_iconst X1469 hx 417 rfl (hb hby at_416) (1 : Int32) rfl ?_
                  refine own_iadd X1469 hx 418 rfl (hb hby at_417) (1 : Int32) rfl ?_
                  refine own_ldD X1469 hx hZ e1469 f1474 ⟨by decide, by decide⟩ e1 rfl 419 rfl (hb hby at_418) ?_
                  refine own_dload X1469 hx 421 rfl (hb hby at_419) rfl ?_
                  refine own_dcmp X1469 hx 422 rfl (hb hby at_421) _ rfl ?_
                  refine own_ifNo X1469 hx 425 rfl (hb hby at_422) ((if0 _ _).trans (flt (own_cmp_le nn1 hd (Int.not_lt.mp hc1504) .g)).2.2.1) ?_
                  refine own_iinc X1469 hx 428 rfl (hb hby at_425) rfl #[.val (.int i0), .val (.int i1), .val (.int i2), .val (.double (9218868437227405312 : UInt64)), .second, .val (.int (3 : Int32)), .val (.int (0 : Int32)), .val (.int (own_k i0)), .val (.int f8), .val (.int (own_a0 i1)), .val (.int (own_a1 i1)), .val (.int (own_a2 i1)), .val (.double d), .second, .val (.ref b365), .val (.ref b369), .val (.int (0 : Int32)), .val (.ref b1337), .val (.ref b1401), .val (.int (0 : Int32)), .val (.int (2 : Int32)), .unset] rfl ?_
                  refine own_iload X1469 hx 430 rfl (hb hby at_428) rfl ?_
                  refine own_iconst X1469 hx 431 rfl (hb hby at_430) (3 : Int32) rfl ?_
                  refine own_icmpNo X1469 hx 434 rfl (hb hby at_431) (by decide) ?_
                  refine own_aload X1469 hx 436 rfl (hb hby at_434) rfl rfl ?_
                  refine own_iload X1469 hx 438 rfl (hb hby at_436) rfl ?_
                  refine own_iconst X1469 hx 439 rfl (hb hby at_438) (2 : Int32) rfl ?_
                  refine own_iadd X1469 hx 440 rfl (hb hby at_439) (2 : Int32) rfl ?_
                  refine own_ldD X1469 hx hZ e1469 f1474 ⟨by decide, by decide⟩ e2 rfl 441 rfl (hb hby at_440) ?_
                  refine own_dload X1469 hx 443 rfl (hb hby at_441) rfl ?_
                  refine own_dcmp X1469 hx 444 rfl (hb hby at_443) _ rfl ?_
                  refine own_ifNo X1469 hx 447 rfl (hb hby at_444) ((if0 _ _).trans (flt (own_cmp_le nn2 hd (Int.not_lt.mp hc1528) .g)).2.2.1) ?_
                  refine own_iinc X1469 hx 450 rfl (hb hby at_447) rfl #[.val (.int i0), .val (.int i1), .val (.int i2), .val (.double (9218868437227405312 : UInt64)), .second, .val (.int (3 : Int32)), .val (.int (0 : Int32)), .val (.int (own_k i0)), .val (.int f8), .val (.int (own_a0 i1)), .val (.int (own_a1 i1)), .val (.int (own_a2 i1)), .val (.double d), .second, .val (.ref b365), .val (.ref b369), .val (.int (0 : Int32)), .val (.ref b1337), .val (.ref b1401), .val (.int (0 : Int32)), .val (.int (3 : Int32)), .unset] rfl ?_
                  refine own_iloadN X1469 hx 451 rfl (hb hby at_450) rfl ?_
                  refine own_dload X1469 hx 453 rfl (hb hby at_451) rfl ?_
                  refine own_iload X1469 hx 455 rfl (hb hby at_453) rfl ?_
                  refine own_iload X1469 hx 457 rfl (hb hby at_455) rfl ?_
                  refine own_aload X1469 hx 459 rfl (hb hby at_457) rfl rfl ?_
                  refine own_aload X1469 hx 461 rfl (hb hby at_459) rfl rfl ?_
                  refine own_callS X1469 hx hZ (y := (⟨"com/example/outpost/outpost/model/Distances", "keepNearer", "(IDII[D[I)Z"⟩ : MethodName)) hown (own_hw hw 9 rfl) (own_hw hw 10 rfl) (by decide) (rm_keep_3_0_n l Z a0 hw [] i2 d b1337 b1401 k1337 k1401 e0 e1 e2 (4652033697120256000 : UInt64) (4652042493213278208 : UInt64) (4652051289306300416 : UInt64) (10 : Int32) (11 : Int32) (12 : Int32) (13 : Int32) (14 : Int32) (15 : Int32) h1469 n0 z1478 f1476 f1470 ne1404 ge1340 ge1405 (own_cmp_ge hd nn2 (Int.not_lt.mp hc1528) .g)) (own_hw hw 12 rfl) (own_hw hw 11 rfl) (by decide) e1469 (by rw [hml]; rfl) [(.int i2), (.double d), (.int (0 : Int32)), (.int (3 : Int32)), (.ref b1337), (.ref b1401)] 0 (by decide) (Nat.le_of_eq rfl) (by decide) (by decide) (lenOf own_pd2 rfl) rfl rfl 464 rfl (hb hby at_461) fun v1552 T1552 Lc1552 X1552 hQ1552 => ?_
                  obtain ⟨rfl, Nq1552, Kq1552, fu1552, fw1552⟩ := hQ1552
                  have N1553 := Fr.app N1479 Nq1552
                  have f1554 := f1471.keep Kq1552
                  have f1555 := f1472.keep Kq1552
                  have f1556 := f1473.keep Kq1552 (ninS ne1339 (ninS ne1403 nin0))
                  have f1557 := f1474.keep Kq1552 (ninS ne1338 (ninS ne1402 nin0))
                  have f1558 := f1475.keep Kq1552
                  have f1560 := f1477.keep Kq1552
                  have z1562 := Nat.le_trans z1478 Kq1552.1
                  show own_Go _ _ _ _ _ (State.setTop _ (mkF _ 464 _ [(.int (0 : Int32))]))
                  refine own_istore X1552 hx 466 rfl (hb hby at_464) #[.val (.int i0), .val (.int i1), .val (.int i2), .val (.double (9218868437227405312 : UInt64)), .second, .val (.int (3 : Int32)), .val (.int (0 : Int32)), .val (.int (own_k i0)), .val (.int f8), .val (.int (own_a0 i1)), .val (.int (own_a1 i1)), .val (.int (own_a2 i1)), .val (.double d), .second, .val (.ref b365), .val (.ref b369), .val (.int (0 : Int32)), .val (.ref b1337), .val (.ref b1401), .val (.int (0 : Int32)), .val (.int (3 : Int32)), .val (.int (0 : Int32))] rfl ?_
                  refine own_iload X1552 hx 468 rfl (hb hby at_466) rfl ?_
                  refine own_iload X1552 hx 470 rfl (hb hby at_468) rfl ?_
                  refine own_icmpNo X1552 hx 473 rfl (hb hby at_470) (by decide) ?_
                  refine own_iconst X1552 hx 474 rfl (hb hby at_473) (0 : Int32) rfl ?_
                  refine own_iload X1552 hx 476 rfl (hb hby at_474) rfl ?_
                  refine own_iload X1552 hx 478 rfl (hb hby at_476) rfl ?_
                  refine own_iload X1552 hx 480 rfl (hb hby at_478) rfl ?_
                  refine own_iload X1552 hx 482 rfl (hb hby at_480) rfl ?_
                  refine own_dload X1552 hx 484 rfl (hb hby at_482) rfl ?_
                  refine own_iloadN X1552 hx 485 rfl (hb hby at_484) rfl ?_
                  refine own_aload X1552 hx 487 rfl (hb hby at_485) rfl rfl ?_
                  refine own_aload X1552 hx 489 rfl (hb hby at_487) rfl rfl ?_
                  refine own_aload X1552 hx 491 rfl (hb hby at_489) rfl rfl ?_
                  refine own_aload X1552 hx 493 rfl (hb hby at_491) rfl rfl ?_
                  refine own_callS X1552 hx hZ (y := (⟨"com/example/outpost/outpost/model/DistancesKeepNearerPinLaw", "same", "(IIIIZDI[D[I[D[I)Z"⟩ : MethodName)) hown (own_hw hw 13 rfl) (own_hw hw 14 rfl) (by decide) (rm_same_A1 l Z a0 hw [] (0 : Int32) (0 : Int32) (3 : Int32) (3 : Int32) d i2 b365 b369 b1337 b1401 k365 k369 k1337 k1401 [(.double e0), (.double e1), (.double e2), (.double (4652033697120256000 : UInt64)), (.double (4652042493213278208 : UInt64)), (.double (4652051289306300416 : UInt64))] [(.int (10 : Int32)), (.int (11 : Int32)), (.int (12 : Int32)), (.int (13 : Int32)), (.int (14 : Int32)), (.int (15 : Int32))] [(.double e0), (.double e1), (.double e2), (.double (4652033697120256000 : UInt64)), (.double (4652042493213278208 : UInt64)), (.double (4652051289306300416 : UInt64))] [(.int (10 : Int32)), (.int (11 : Int32)), (.int (12 : Int32)), (.int (13 : Int32)), (.int (14 : Int32)), (.int (15 : Int32))] e0 (10 : Int32) T1552.heap n0 z1562 f1557 f1556 fu1552 fw1552 (by decide) rfl rfl (by decide) rfl rfl (own_self nn0)) (own_hw hw 16 rfl) (own_hw hw 15 rfl) (by decide) rfl (by rw [hml]; rfl) [(.int (0 : Int32)), (.int (0 : Int32)), (.int (3 : Int32)), (.int (3 : Int32)), (.int (0 : Int32)), (.double d), (.int i2), (.ref b365), (.ref b369), (.ref b1337), (.ref b1401)] 0 (by decide) (Nat.le_of_eq rfl) (by decide) (by decide) (lenOf own_pd3 rfl) rfl rfl 496 rfl (hb hby at_493) fun v1563 T1563 Lc1563 X1563 hQ1563 => ?_
                  obtain ⟨rfl, Nq1563, e1563⟩ := hQ1563
                  have N1564 := Fr.app N1553 Nq1563
                  show own_Go _ _ _ _ _ (State.setTop _ (mkF _ 496 _ [(.int (1 : Int32))]))
                  refine own_ifNo X1563 hx 499 rfl (hb hby at_496) (by decide) ?_
                  refine own_iconst X1563 hx 500 rfl (hb hby at_499) (1 : Int32) rfl ?_
                  refine own_iload X1563 hx 502 rfl (hb hby at_500) rfl ?_
                  refine own_iload X1563 hx 504 rfl (hb hby at_502) rfl ?_
                  refine own_iload X1563 hx 506 rfl (hb hby at_504) rfl ?_
                  refine own_iload X1563 hx 508 rfl (hb hby at_506) rfl ?_
                  refine own_dload X1563 hx 510 rfl (hb hby at_508) rfl ?_
                  refine own_iloadN X1563 hx 511 rfl (hb hby at_510) rfl ?_
                  refine own_aload X1563 hx 513 rfl (hb hby at_511) rfl rfl ?_
                  refine own_aload X1563 hx 515 rfl (hb hby at_513) rfl rfl ?_
                  refine own_aload X1563 hx 517 rfl (hb hby at_515) rfl rfl ?_
                  refine own_aload X1563 hx 519 rfl (hb hby at_517) rfl rfl ?_
                  refine own_callS X1563 hx hZ (y := (⟨"com/example/outpost/outpost/model/DistancesKeepNearerPinLaw", "same", "(IIIIZDI[D[I[D[I)Z"⟩ : MethodName)) hown (own_hw hw 13 rfl) (own_hw hw 14 rfl) (by decide) (rm_same_A1 l Z a0 hw [] (1 : Int32) (0 : Int32) (3 : Int32) (3 : Int32) d i2 b365 b369 b1337 b1401 k365 k369 k1337 k1401 [(.double e0), (.double e1), (.double e2), (.double (4652033697120256000 : UInt64)), (.double (4652042493213278208 : UInt64)), (.double (4652051289306300416 : UInt64))] [(.int (10 : Int32)), (.int (11 : Int32)), (.int (12 : Int32)), (.int (13 : Int32)), (.int (14 : Int32)), (.int (15 : Int32))] [(.double e0), (.double e1), (.double e2), (.double (4652033697120256000 : UInt64)), (.double (4652042493213278208 : UInt64)), (.double (4652051289306300416 : UInt64))] [(.int (10 : Int32)), (.int (11 : Int32)), (.int (12 : Int32)), (.int (13 : Int32)), (.int (14 : Int32)), (.int (15 : Int32))] e1 (11 : Int32) T1552.heap n0 z1562 f1557 f1556 fu1552 fw1552 (by decide) rfl rfl (by decide) rfl rfl (own_self nn1)) (own_hw hw 16 rfl) (own_hw hw 15 rfl) (by decide) e1563 (by rw [hml]; rfl) [(.int (1 : Int32)), (.int (0 : Int32)), (.int (3 : Int32)), (.int (3 : Int32)), (.int (0 : Int32)), (.double d), (.int i2), (.ref b365), (.ref b369), (.ref b1337), (.ref b1401)] 0 (by decide) (Nat.le_of_eq rfl) (by decide) (by decide) (lenOf own_pd3 rfl) rfl rfl 522 rfl (hb hby at_519) fun v1565 T1565 Lc1565 X1565 hQ1565 => ?_
                  obtain ⟨rfl, Nq1565, e1565⟩ := hQ1565
                  have N1566 := Fr.app N1564 Nq1565
                  show own_Go _ _ _ _ _ (State.setTop _ (mkF _ 522 _ [(.int (1 : Int32))]))
                  refine own_ifNo X1565 hx 525 rfl (hb hby at_522) (by decide) ?_
                  refine own_iconst X1565 hx 526 rfl (hb hby at_525) (2 : Int32) rfl ?_
                  refine own_iload X1565 hx 528 rfl (hb hby at_526) rfl ?_
                  refine own_iload X1565 hx 530 rfl (hb hby at_528) rfl ?_
                  refine own_iload X1565 hx 532 rfl (hb hby at_530) rfl ?_
                  refine own_iload X1565 hx 534 rfl (hb hby at_532) rfl ?_
                  refine own_dload X1565 hx 536 rfl (hb hby at_534) rfl ?_
                  refine own_iloadN X1565 hx 537 rfl (hb hby at_536) rfl ?_
                  refine own_aload X1565 hx 539 rfl (hb hby at_537) rfl rfl ?_
                  refine own_aload X1565 hx 541 rfl (hb hby at_539) rfl rfl ?_
                  refine own_aload X1565 hx 543 rfl (hb hby at_541) rfl rfl ?_
                  refine own_aload X1565 hx 545 rfl (hb hby at_543) rfl rfl ?_
                  refine own_callS X1565 hx hZ (y := (⟨"com/example/outpost/outpost/model/DistancesKeepNearerPinLaw", "same", "(IIIIZDI[D[I[D[I)Z"⟩ : MethodName)) hown (own_hw hw 13 rfl) (own_hw hw 14 rfl) (by decide) (rm_same_A1 l Z a0 hw [] (2 : Int32) (0 : Int32) (3 : Int32) (3 : Int32) d i2 b365 b369 b1337 b1401 k365 k369 k1337 k1401 [(.double e0), (.double e1), (.double e2), (.double (4652033697120256000 : UInt64)), (.double (4652042493213278208 : UInt64)), (.double (4652051289306300416 : UInt64))] [(.int (10 : Int32)), (.int (11 : Int32)), (.int (12 : Int32)), (.int (13 : Int32)), (.int (14 : Int32)), (.int (15 : Int32))] [(.double e0), (.double e1), (.double e2), (.double (4652033697120256000 : UInt64)), (.double (4652042493213278208 : UInt64)), (.double (4652051289306300416 : UInt64))] [(.int (10 : Int32)), (.int (11 : Int32)), (.int (12 : Int32)), (.int (13 : Int32)), (.int (14 : Int32)), (.int (15 : Int32))] e2 (12 : Int32) T1552.heap n0 z1562 f1557 f1556 fu1552 fw1552 (by decide) rfl rfl (by decide) rfl rfl (own_self nn2)) (own_hw hw 16 rfl) (own_hw hw 15 rfl) (by decide) e1565 (by rw [hml]; rfl) [(.int (2 : Int32)), (.int (0 : Int32)), (.int (3 : Int32)), (.int (3 : Int32)), (.int (0 : Int32)), (.double d), (.int i2), (.ref b365), (.ref b369), (.ref b1337), (.ref b1401)] 0 (by decide) (Nat.le_of_eq rfl) (by decide) (by decide) (lenOf own_pd3 rfl) rfl rfl 548 rfl (hb hby at_545) fun v1567 T1567 Lc1567 X1567 hQ1567 => ?_
                  obtain ⟨rfl, Nq1567, e1567⟩ := hQ1567
                  have N1568 := Fr.app N1566 Nq1567
                  show own_Go _ _ _ _ _ (State.setTop _ (mkF _ 548 _ [(.int (1 : Int32))]))
                  refine own_ifNo X1567 hx 551 rfl (hb hby at_548) (by decide) ?_
                  refine own_iconst X1567 hx 552 rfl (hb hby at_551) (3 : Int32) rfl ?_
                  refine own_iload X1567 hx 554 rfl (hb hby at_552) rfl ?_
                  refine own_iload X1567 hx 556 rfl (hb hby at_554) rfl ?_
                  refine own_iload X1567 hx 558 rfl (hb hby at_556) rfl ?_
                  refine own_iload X1567 hx 560 rfl (hb hby at_558) rfl ?_
                  refine own_dload X1567 hx 562 rfl (hb hby at_560) rfl ?_
                  refine own_iloadN X1567 hx 563 rfl (hb hby at_562) rfl ?_
                  refine own_aload X1567 hx 565 rfl (hb hby at_563) rfl rfl ?_
                  refine own_aload X1567 hx 567 rfl (hb hby at_565) rfl rfl ?_
                  refine own_aload X1567 hx 569 rfl (hb hby at_567) rfl rfl ?_
                  refine own_aload X1567 hx 571 rfl (hb hby at_569) rfl rfl ?_
                  refine own_callS X1567 hx hZ (y := (⟨"com/example/outpost/outpost/model/DistancesKeepNearerPinLaw", "same", "(IIIIZDI[D[I[D[I)Z"⟩ : MethodName)) hown (own_hw hw 13 rfl) (own_hw hw 14 rfl) (by decide) (rm_same_A1 l Z a0 hw [] (3 : Int32) (0 : Int32) (3 : Int32) (3 : Int32) d i2 b365 b369 b1337 b1401 k365 k369 k1337 k1401 [(.double e0), (.double e1), (.double e2), (.double (4652033697120256000 : UInt64)), (.double (4652042493213278208 : UInt64)), (.double (4652051289306300416 : UInt64))] [(.int (10 : Int32)), (.int (11 : Int32)), (.int (12 : Int32)), (.int (13 : Int32)), (.int (14 : Int32)), (.int (15 : Int32))] [(.double e0), (.double e1), (.double e2), (.double (4652033697120256000 : UInt64)), (.double (4652042493213278208 : UInt64)), (.double (4652051289306300416 : UInt64))] [(.int (10 : Int32)), (.int (11 : Int32)), (.int (12 : Int32)), (.int (13 : Int32)), (.int (14 : Int32)), (.int (15 : Int32))] (4652033697120256000 : UInt64) (13 : Int32) T1552.heap n0 z1562 f1557 f1556 fu1552 fw1552 (by decide) rfl rfl (by decide) rfl rfl (own_self own_cst.2.2.2.1)) (own_hw hw 16 rfl) (own_hw hw 15 rfl) (by decide) e1567 (by rw [hml]; rfl) [(.int (3 : Int32)), (.int (0 : Int32)), (.int (3 : Int32)), (.int (3 : Int32)), (.int (0 : Int32)), (.double d), (.int i2), (.ref b365), (.ref b369), (.ref b1337), (.ref b1401)] 0 (by decide) (Nat.le_of_eq rfl) (by decide) (by decide) (lenOf own_pd3 rfl) rfl rfl 574 rfl (hb hby at_571) fun v1569 T1569 Lc1569 X1569 hQ1569 => ?_
                  obtain ⟨rfl, Nq1569, e1569⟩ := hQ1569
                  have N1570 := Fr.app N1568 Nq1569
                  show own_Go _ _ _ _ _ (State.setTop _ (mkF _ 574 _ [(.int (1 : Int32))]))
                  refine own_ifNo X1569 hx 577 rfl (hb hby at_574) (by decide) ?_
                  refine own_iconst X1569 hx 578 rfl (hb hby at_577) (4 : Int32) rfl ?_
                  refine own_iload X1569 hx 580 rfl (hb hby at_578) rfl ?_
                  refine own_iload X1569 hx 582 rfl (hb hby at_580) rfl ?_
                  refine own_iload X1569 hx 584 rfl (hb hby at_582) rfl ?_
                  refine own_iload X1569 hx 586 rfl (hb hby at_584) rfl ?_
                  refine own_dload X1569 hx 588 rfl (hb hby at_586) rfl ?_
                  refine own_iloadN X1569 hx 589 rfl (hb hby at_588) rfl ?_
                  refine own_aload X1569 hx 591 rfl (hb hby at_589) rfl rfl ?_
                  refine own_aload X1569 hx 593 rfl (hb hby at_591) rfl rfl ?_
                  refine own_aload X1569 hx 595 rfl (hb hby at_593) rfl rfl ?_
                  refine own_aload X1569 hx 597 rfl (hb hby at_595) rfl rfl ?_
                  refine own_callS X1569 hx hZ (y := (⟨"com/example/outpost/outpost/model/DistancesKeepNearerPinLaw", "same", "(IIIIZDI[D[I[D[I)Z"⟩ : MethodName)) hown (own_hw hw 13 rfl) (own_hw hw 14 rfl) (by decide) (rm_same_A1 l Z a0 hw [] (4 : Int32) (0 : Int32) (3 : Int32) (3 : Int32) d i2 b365 b369 b1337 b1401 k365 k369 k1337 k1401 [(.double e0), (.double e1), (.double e2), (.double (4652033697120256000 : UInt64)), (.double (4652042493213278208 : UInt64)), (.double (4652051289306300416 : UInt64))] [(.int (10 : Int32)), (.int (11 : Int32)), (.int (12 : Int32)), (.int (13 : Int32)), (.int (14 : Int32)), (.int (15 : Int32))] [(.double e0), (.double e1), (.double e2), (.double (4652033697120256000 : UInt64)), (.double (4652042493213278208 : UInt64)), (.double (4652051289306300416 : UInt64))] [(.int (10 : Int32)), (.int (11 : Int32)), (.int (12 : Int32)), (.int (13 : Int32)), (.int (14 : Int32)), (.int (15 : Int32))] (4652042493213278208 : UInt64) (14 : Int32) T1552.heap n0 z1562 f1557 f1556 fu1552 fw1552 (by decide) rfl rfl (by decide) rfl rfl (own_self own_cst.2.2.2.2.1)) (own_hw hw 16 rfl) (own_hw hw 15 rfl) (by decide) e1569 (by rw [hml]; rfl) [(.int (4 : Int32)), (.int (0 : Int32)), (.int (3 : Int32)), (.int (3 : Int32)), (.int (0 : Int32)), (.double d), (.int i2), (.ref b365), (.ref b369), (.ref b1337), (.ref b1401)] 0 (by decide) (Nat.le_of_eq rfl) (by decide) (by decide) (lenOf own_pd3 rfl) rfl rfl 600 rfl (hb hby at_597) fun v1571 T1571 Lc1571 X1571 hQ1571 => ?_
                  obtain ⟨rfl, Nq1571, e1571⟩ := hQ1571
                  have N1572 := Fr.app N1570 Nq1571
                  show own_Go _ _ _ _ _ (State.setTop _ (mkF _ 600 _ [(.int (1 : Int32))]))
                  refine own_ifNo X1571 hx 603 rfl (hb hby at_600) (by decide) ?_
                  refine own_iconst X1571 hx 604 rfl (hb hby at_603) (5 : Int32) rfl ?_
                  refine own_iload X1571 hx 606 rfl (hb hby at_604) rfl ?_
                  refine own_iload X1571 hx 608 rfl (hb hby at_606) rfl ?_
                  refine own_iload X1571 hx 610 rfl (hb hby at_608) rfl ?_
                  refine own_iload X1571 hx 612 rfl (hb hby at_610) rfl ?_
                  refine own_dload X1571 hx 614 rfl (hb hby at_612) rfl ?_
                  refine own_iloadN X1571 hx 615 rfl (hb hby at_614) rfl ?_
                  refine own_aload X1571 hx 617 rfl (hb hby at_615) rfl rfl ?_
                  refine own_aload X1571 hx 619 rfl (hb hby at_617) rfl rfl ?_
                  refine own_aload X1571 hx 621 rfl (hb hby at_619) rfl rfl ?_
                  refine own_aload X1571 hx 623 rfl (hb hby at_621) rfl rfl ?_
                  refine own_callS X1571 hx hZ (y := (⟨"com/example/outpost/outpost/model/DistancesKeepNearerPinLaw", "same", "(IIIIZDI[D[I[D[I)Z"⟩ : MethodName)) hown (own_hw hw 13 rfl) (own_hw hw 14 rfl) (by decide) (rm_same_A1 l Z a0 hw [] (5 : Int32) (0 : Int32) (3 : Int32) (3 : Int32) d i2 b365 b369 b1337 b1401 k365 k369 k1337 k1401 [(.double e0), (.double e1), (.double e2), (.double (4652033697120256000 : UInt64)), (.double (4652042493213278208 : UInt64)), (.double (4652051289306300416 : UInt64))] [(.int (10 : Int32)), (.int (11 : Int32)), (.int (12 : Int32)), (.int (13 : Int32)), (.int (14 : Int32)), (.int (15 : Int32))] [(.double e0), (.double e1), (.double e2), (.double (4652033697120256000 : UInt64)), (.double (4652042493213278208 : UInt64)), (.double (4652051289306300416 : UInt64))] [(.int (10 : Int32)), (.int (11 : Int32)), (.int (12 : Int32)), (.int (13 : Int32)), (.int (14 : Int32)), (.int (15 : Int32))] (4652051289306300416 : UInt64) (15 : Int32) T1552.heap n0 z1562 f1557 f1556 fu1552 fw1552 (by decide) rfl rfl (by decide) rfl rfl (own_self own_cst.2.2.2.2.2)) (own_hw hw 16 rfl) (own_hw hw 15 rfl) (by decide) e1571 (by rw [hml]; rfl) [(.int (5 : Int32)), (.int (0 : Int32)), (.int (3 : Int32)), (.int (3 : Int32)), (.int (0 : Int32)), (.double d), (.int i2), (.ref b365), (.ref b369), (.ref b1337), (.ref b1401)] 0 (by decide) (Nat.le_of_eq rfl) (by decide) (by decide) (lenOf own_pd3 rfl) rfl rfl 626 rfl (hb hby at_623) fun v1573 T1573 Lc1573 X1573 hQ1573 => ?_
                  obtain ⟨rfl, Nq1573, e1573⟩ := hQ1573
                  have N1574 := Fr.app N1572 Nq1573
                  show own_Go _ _ _ _ _ (State.setTop _ (mkF _ 626 _ [(.int (1 : Int32))]))
                  refine own_ifNo X1573 hx 629 rfl (hb hby at_626) (by decide) ?_
                  refine own_iconst X1573 hx 630 rfl (hb hby at_629) (1 : Int32) rfl ?_
                  refine own_goto X1573 hx 634 (hb hby at_630) (by decide) rfl ?_
                  refine own_ret X1573 (some (.int (1 : Int32))) (fun h => by rw [Bd.returns] at h; cases h) Bd.notSynchronized (by decide) (by decide) ?_ (fun fs hr => retN X1573 hx (t := .boolean) Bd.returns (by simp) (hb hby at_634) hr)
                  show Q_rm0 Z i0 i1 i2 h0 n0 _ T1573.heap _
                  rw [e1573]
                  exact ⟨rfl, N1574⟩
          by_cases hc1575 : (2 : Int32) < (own_k i0)
          ·
            refine own_icmpYes X1323 hx 254 (hb hby at_247) (tlt hc1575).1 (by decide) rfl ?_
            refine own_iload X1323 hx 256 rfl (hb hby at_254) rfl ?_
            refine own_i2d X1323 hx 257 rfl (hb hby at_256) _ rfl ?_
            exact J257 _ (if_pos hc1575).symm
          ·
            refine own_icmpNo X1323 hx 250 rfl (hb hby at_247) (flt hc1575).1 ?_
            refine own_dloadN X1323 hx 251 rfl (hb hby at_250) rfl ?_
            refine own_goto X1323 hx 257 (hb hby at_251) (by decide) rfl ?_
            exact J257 _ (if_neg hc1575).symm
        by_cases hc1576 : (1 : Int32) < (own_k i0)
        ·
          refine own_icmpYes X1316 hx 228 (hb hby at_221) (tlt hc1576).1 (by decide) rfl ?_
          refine own_iload X1316 hx 230 rfl (hb hby at_228) rfl ?_
          refine own_i2d X1316 hx 231 rfl (hb hby at_230) _ rfl ?_
          exact J231 _ (if_pos hc1576).symm
        ·
          refine own_icmpNo X1316 hx 224 rfl (hb hby at_221) (flt hc1576).1 ?_
          refine own_dloadN X1316 hx 225 rfl (hb hby at_224) rfl ?_
          refine own_goto X1316 hx 231 (hb hby at_225) (by decide) rfl ?_
          exact J231 _ (if_neg hc1576).symm
      by_cases hc1577 : (0 : Int32) < (own_k i0)
      ·
        refine own_icmpYes X453 hx 202 (hb hby at_195) (tlt hc1577).1 (by decide) rfl ?_
        refine own_iload X453 hx 204 rfl (hb hby at_202) rfl ?_
        refine own_i2d X453 hx 205 rfl (hb hby at_204) _ rfl ?_
        exact J205 _ (if_pos hc1577).symm
      ·
        refine own_icmpNo X453 hx 198 rfl (hb hby at_195) (flt hc1577).1 ?_
        refine own_dloadN X453 hx 199 rfl (hb hby at_198) rfl ?_
        refine own_goto X453 hx 205 (hb hby at_199) (by decide) rfl ?_
        exact J205 _ (if_neg hc1577).symm
    ·
      show own_Go _ _ _ _ _ (State.setTop _ (mkF _ 181 #[.val (.int i0), .val (.int i1), .val (.int i2), .val (.double (9218868437227405312 : UInt64)), .second, .val (.int (3 : Int32)), .val (.int (1 : Int32)), .val (.int (own_k i0)), .val (.int f8), .val (.int (own_a0 i1)), .val (.int (own_a1 i1)), .val (.int (own_a2 i1)), .val (.double d), .second, .val (.ref b365), .val (.ref b369), .unset, .unset, .unset, .unset, .unset, .unset] []))
      refine own_iload X453 hx 183 rfl (hb hby at_181) rfl ?_
      refine own_iload X453 hx 185 rfl (hb hby at_183) rfl ?_
      refine own_imul X453 hx 186 rfl (hb hby at_185) (3 : Int32) rfl ?_
      refine own_istore X453 hx 188 rfl (hb hby at_186) #[.val (.int i0), .val (.int i1), .val (.int i2), .val (.double (9218868437227405312 : UInt64)), .second, .val (.int (3 : Int32)), .val (.int (1 : Int32)), .val (.int (own_k i0)), .val (.int f8), .val (.int (own_a0 i1)), .val (.int (own_a1 i1)), .val (.int (own_a2 i1)), .val (.double d), .second, .val (.ref b365), .val (.ref b369), .val (.int (3 : Int32)), .unset, .unset, .unset, .unset, .unset] rfl ?_
      refine own_aload X453 hx 190 rfl (hb hby at_188) rfl rfl ?_
      refine own_iload X453 hx 192 rfl (hb hby at_190) rfl ?_
      refine own_iconst X453 hx 193 rfl (hb hby at_192) (0 : Int32) rfl ?_
      refine own_iload X453 hx 195 rfl (hb hby at_193) rfl ?_
      have J205 : ∀ (e0 : UInt64), (e0 = (own_v (0 : Int32) (own_k i0) (own_a0 i1))) → own_Go p e below (fun o u L => FrameEnd s o u L room_1.cells room_1.slots) (Q_rm0 Z i0 i1 i2 h0 n0) (T453.setTop (mkF m 205 #[.val (.int i0), .val (.int i1), .val (.int i2), .val (.double (9218868437227405312 : UInt64)), .second, .val (.int (3 : Int32)), .val (.int (1 : Int32)), .val (.int (own_k i0)), .val (.int f8), .val (.int (own_a0 i1)), .val (.int (own_a1 i1)), .val (.int (own_a2 i1)), .val (.double d), .second, .val (.ref b365), .val (.ref b369), .val (.int (3 : Int32)), .unset, .unset, .unset, .unset, .unset] [(.double e0), (.int (3 : Int32)), (.ref b365)])) := by
        intro e0 he0
        have nn0 : FP.Core.val64 e0 ≠ .nan := by rw [he0]; exact own_v_nan _ _ _
        show own_Go _ _ _ _ _ (State.setTop _ (mkF _ 205 _ [(.double e0), (.int (3 : Int32)), (.ref b365)]))
        refine own_stD X453 hx hZ e453 f457 ⟨by decide, by decide⟩ 3 rfl (Nat.le_of_ble_eq_true rfl) [(.double (4652007308841189376 : UInt64)), (.double (4652016104934211584 : UInt64)), (.double (4652024901027233792 : UInt64)), (.double e0), (.double (4652042493213278208 : UInt64)), (.double (4652051289306300416 : UInt64))] rfl 206 rfl (hb hby at_205) fun T1578 h1578 X1578 e1578 W1578 f1579 => ?_
        have f1580 := f455.wr W1578
        have f1581 := f456.wr W1578
        have f1582 := f454.other W1578 (Ne.symm ne370)
        have z1583 := Nat.le_trans z458 (Keep.of_wr W1578).1
        have N1584 := Fr.snoc X1578 N459 ge366
        refine own_iload X1578 hx 208 rfl (hb hby at_206) rfl ?_
        refine own_iconst X1578 hx 209 rfl (hb hby at_208) (2 : Int32) rfl ?_
        refine own_icmpNo X1578 hx 212 rfl (hb hby at_209) (by decide) ?_
        refine own_aload X1578 hx 214 rfl (hb hby at_212) rfl rfl ?_
        refine own_iload X1578 hx 216 rfl (hb hby at_214) rfl ?_
        refine own_iconst X1578 hx 217 rfl (hb hby at_216) (1 : Int32) rfl ?_
        refine own_iadd X1578 hx 218 rfl (hb hby at_217) (4 : Int32) rfl ?_
        refine own_iconst X1578 hx 219 rfl (hb hby at_218) (1 : Int32) rfl ?_
        refine own_iload X1578 hx 221 rfl (hb hby at_219) rfl ?_
        have J231 : ∀ (e1 : UInt64), (e1 = (own_v (1 : Int32) (own_k i0) (own_a1 i1))) → own_Go p e below (fun o u L => FrameEnd s o u L room_1.cells room_1.slots) (Q_rm0 Z i0 i1 i2 h0 n0) (T1578.setTop (mkF m 231 #[.val (.int i0), .val (.int i1), .val (.int i2), .val (.double (9218868437227405312 : UInt64)), .second, .val (.int (3 : Int32)), .val (.int (1 : Int32)), .val (.int (own_k i0)), .val (.int f8), .val (.int (own_a0 i1)), .val (.int (own_a1 i1)), .val (.int (own_a2 i1)), .val (.double d), .second, .val (.ref b365), .val (.ref b369), .val (.int (3 : Int32)), .unset, .unset, .unset, .unset, .unset] [(.double e1), (.int (4 : Int32)), (.ref b365)])) := by
          intro e1 he1
          have nn1 : FP.Core.val64 e1 ≠ .nan := by rw [he1]; exact own_v_nan _ _ _
          have la1 : own_z e0 ≤ own_z e1 := by rw [he0, he1]; exact own_v_le (by decide) (own_a_rng i1).2.1
          show own_Go _ _ _ _ _ (State.setTop _ (mkF _ 231 _ [(.double e1), (.int (4 : Int32)), (.ref b365)]))
          refine own_stD X1578 hx hZ e1578 f1579 ⟨by decide, by decide⟩ 4 rfl (Nat.le_of_ble_eq_true rfl) [(.double (4652007308841189376 : UInt64)), (.double (4652016104934211584 : UInt64)), (.double (4652024901027233792 : UInt64)), (.double e0), (.double e1), (.double (4652051289306300416 : UInt64))] rfl 232 rfl (hb hby at_231) fun T1585 h1585 X1585 e1585 W1585 f1586 => ?_
          have f1587 := f1580.wr W1585
          have f1588 := f1581.wr W1585
          have f1589 := f1582.other W1585 (Ne.symm ne370)
          have z1590 := Nat.le_trans z1583 (Keep.of_wr W1585).1
          have N1591 := Fr.snoc X1585 N1584 ge366
          refine own_iload X1585 hx 234 rfl (hb hby at_232) rfl ?_
          refine own_iconst X1585 hx 235 rfl (hb hby at_234) (3 : Int32) rfl ?_
          refine own_icmpNo X1585 hx 238 rfl (hb hby at_235) (by decide) ?_
          refine own_aload X1585 hx 240 rfl (hb hby at_238) rfl rfl ?_
          refine own_iload X1585 hx 242 rfl (hb hby at_240) rfl ?_
          refine own_iconst X1585 hx 243 rfl (hb hby at_242) (2 : Int32) rfl ?_
          refine own_iadd X1585 hx 244 rfl (hb hby at_243) (5 : Int32) rfl ?_
          refine own_iconst X1585 hx 245 rfl (hb hby at_244) (2 : Int32) rfl ?_
          refine own_iload X1585 hx 247 rfl (hb hby at_245) rfl ?_
          have J257 : ∀ (e2 : UInt64), (e2 = (own_v (2 : Int32) (own_k i0) (own_a2 i1))) → own_Go p e below (fun o u L => FrameEnd s o u L room_1.cells room_1.slots) (Q_rm0 Z i0 i1 i2 h0 n0) (T1585.setTop (mkF m 257 #[.val (.int i0), .val (.int i1), .val (.int i2), .val (.double (9218868437227405312 : UInt64)), .second, .val (.int (3 : Int32)), .val (.int (1 : Int32)), .val (.int (own_k i0)), .val (.int f8), .val (.int (own_a0 i1)), .val (.int (own_a1 i1)), .val (.int (own_a2 i1)), .val (.double d), .second, .val (.ref b365), .val (.ref b369), .val (.int (3 : Int32)), .unset, .unset, .unset, .unset, .unset] [(.double e2), (.int (5 : Int32)), (.ref b365)])) := by
            intro e2 he2
            have nn2 : FP.Core.val64 e2 ≠ .nan := by rw [he2]; exact own_v_nan _ _ _
            have la2 : own_z e1 ≤ own_z e2 := by rw [he1, he2]; exact own_v_le (by decide) (own_a_rng i1).2.2.1
            show own_Go _ _ _ _ _ (State.setTop _ (mkF _ 257 _ [(.double e2), (.int (5 : Int32)), (.ref b365)]))
            refine own_stD X1585 hx hZ e1585 f1586 ⟨by decide, by decide⟩ 5 rfl (Nat.le_of_ble_eq_true rfl) [(.double (4652007308841189376 : UInt64)), (.double (4652016104934211584 : UInt64)), (.double (4652024901027233792 : UInt64)), (.double e0), (.double e1), (.double e2)] rfl 258 rfl (hb hby at_257) fun T1592 h1592 X1592 e1592 W1592 f1593 => ?_
            have f1594 := f1587.wr W1592
            have f1595 := f1588.wr W1592
            have f1596 := f1589.other W1592 (Ne.symm ne370)
            have z1597 := Nat.le_trans z1590 (Keep.of_wr W1592).1
            have N1598 := Fr.snoc X1592 N1591 ge366
            refine own_bipush X1592 hx 260 rfl (hb hby at_258) (6 : Int32) rfl ?_
            refine own_newA X1592 hx hZ (own_hw hw 1 rfl) e1592 262 rfl (hb hby at_260) (by decide) 6 (by decide) (by decide) (by decide) (by decide) "[D" (by decide) fun T1599 h1599 k1599 b1599 g1599 X1599 e1599 E1599 A1599 C1599 => ?_
            have ne1600 : b365 ≠ b1599 := Nat.ne_of_lt (Nat.lt_of_lt_of_le f1594.lt (Nat.le_of_eq g1599.symm))
            have ne1601 : b369 ≠ b1599 := Nat.ne_of_lt (Nat.lt_of_lt_of_le f1595.lt (Nat.le_of_eq g1599.symm))
            have ge1602 : n0 ≤ b1599 := Nat.le_trans z1597 (Nat.le_of_eq g1599.symm)
            have f1603 := f1594.ext E1599
            have f1604 := f1595.ext E1599
            have f1605 := f1596.ext E1599
            have f1606 := f1593.ext E1599
            have z1607 := Nat.le_trans z1597 E1599.1
            have f1608 : Arv Z h1599 b1599 k1599 .double (6 : Int32) [(.double (0 : UInt64)), (.double (0 : UInt64)), (.double (0 : UInt64)), (.double (0 : UInt64)), (.double (0 : UInt64)), (.double (0 : UInt64))] (.double (0 : UInt64)) := (Arv.new A1599 (by decide)).pad (pad_rep [] (.double (0 : UInt64)) 6)
            refine own_astore X1599 hx 264 rfl (hb hby at_262) rfl #[.val (.int i0), .val (.int i1), .val (.int i2), .val (.double (9218868437227405312 : UInt64)), .second, .val (.int (3 : Int32)), .val (.int (1 : Int32)), .val (.int (own_k i0)), .val (.int f8), .val (.int (own_a0 i1)), .val (.int (own_a1 i1)), .val (.int (own_a2 i1)), .val (.double d), .second, .val (.ref b365), .val (.ref b369), .val (.int (3 : Int32)), .val (.ref b1599), .unset, .unset, .unset, .unset] rfl ?_
            refine own_aload X1599 hx 266 rfl (hb hby at_264) rfl rfl ?_
            refine own_iconst X1599 hx 267 rfl (hb hby at_266) (0 : Int32) rfl ?_
            refine own_aload X1599 hx 269 rfl (hb hby at_267) rfl rfl ?_
            refine own_iconst X1599 hx 270 rfl (hb hby at_269) (0 : Int32) rfl ?_
            refine own_ldD X1599 hx hZ e1599 f1606 ⟨by decide, by decide⟩ (4652007308841189376 : UInt64) rfl 271 rfl (hb hby at_270) ?_
            refine own_stD X1599 hx hZ e1599 f1608 ⟨by decide, by decide⟩ 0 rfl (Nat.le_of_ble_eq_true rfl) [(.double (4652007308841189376 : UInt64)), (.double (0 : UInt64)), (.double (0 : UInt64)), (.double (0 : UInt64)), (.double (0 : UInt64)), (.double (0 : UInt64))] rfl 272 rfl (hb hby at_271) fun T1609 h1609 X1609 e1609 W1609 f1610 => ?_
            have f1611 := f1603.wr W1609
            have f1612 := f1604.wr W1609
            have f1613 := f1605.other W1609 ne1601
            have f1614 := f1606.other W1609 ne1600
            have f1615 := C1599.wr W1609
            have z1616 := Nat.le_trans z1607 (Keep.of_wr W1609).1
            have N1617 := Fr.snoc X1609 N1598 ge1602
            refine own_aload X1609 hx 274 rfl (hb hby at_272) rfl rfl ?_
            refine own_iconst X1609 hx 275 rfl (hb hby at_274) (1 : Int32) rfl ?_
            refine own_aload X1609 hx 277 rfl (hb hby at_275) rfl rfl ?_
            refine own_iconst X1609 hx 278 rfl (hb hby at_277) (1 : Int32) rfl ?_
            refine own_ldD X1609 hx hZ e1609 f1614 ⟨by decide, by decide⟩ (4652016104934211584 : UInt64) rfl 279 rfl (hb hby at_278) ?_
            refine own_stD X1609 hx hZ e1609 f1610 ⟨by decide, by decide⟩ 1 rfl (Nat.le_of_ble_eq_true rfl) [(.double (4652007308841189376 : UInt64)), (.double (4652016104934211584 : UInt64)), (.double (0 : UInt64)), (.double (0 : UInt64)), (.double (0 : UInt64)), (.double (0 : UInt64))] rfl 280 rfl (hb hby at_279) fun T1618 h1618 X1618 e1618 W1618 f1619 => ?_
            have f1620 := f1611.wr W1618
            have f1621 := f1612.wr W1618
            have f1622 := f1613.other W1618 ne1601
            have f1623 := f1614.other W1618 ne1600
            have f1624 := f1615.wr W1618
            have z1625 := Nat.le_trans z1616 (Keep.of_wr W1618).1
            have N1626 := Fr.snoc X1618 N1617 ge1602
            refine own_aload X1618 hx 282 rfl (hb hby at_280) rfl rfl ?_
            refine own_iconst X1618 hx 283 rfl (hb hby at_282) (2 : Int32) rfl ?_
            refine own_aload X1618 hx 285 rfl (hb hby at_283) rfl rfl ?_
            refine own_iconst X1618 hx 286 rfl (hb hby at_285) (2 : Int32) rfl ?_
            refine own_ldD X1618 hx hZ e1618 f1623 ⟨by decide, by decide⟩ (4652024901027233792 : UInt64) rfl 287 rfl (hb hby at_286) ?_
            refine own_stD X1618 hx hZ e1618 f1619 ⟨by decide, by decide⟩ 2 rfl (Nat.le_of_ble_eq_true rfl) [(.double (4652007308841189376 : UInt64)), (.double (4652016104934211584 : UInt64)), (.double (4652024901027233792 : UInt64)), (.double (0 : UInt64)), (.double (0 : UInt64)), (.double (0 : UInt64))] rfl 288 rfl (hb hby at_287) fun T1627 h1627 X1627 e1627 W1627 f1628 => ?_
            have f1629 := f1620.wr W1627
            have f1630 := f1621.wr W1627
            have f1631 := f1622.other W1627 ne1601
            have f1632 := f1623.other W1627 ne1600
            have f1633 := f1624.wr W1627
            have z1634 := Nat.le_trans z1625 (Keep.of_wr W1627).1
            have N1635 := Fr.snoc X1627 N1626 ge1602
            refine own_aload X1627 hx 290 rfl (hb hby at_288) rfl rfl ?_
            refine own_iconst X1627 hx 291 rfl (hb hby at_290) (3 : Int32) rfl ?_
            refine own_aload X1627 hx 293 rfl (hb hby at_291) rfl rfl ?_
            refine own_iconst X1627 hx 294 rfl (hb hby at_293) (3 : Int32) rfl ?_
            refine own_ldD X1627 hx hZ e1627 f1632 ⟨by decide, by decide⟩ e0 rfl 295 rfl (hb hby at_294) ?_
            refine own_stD X1627 hx hZ e1627 f1628 ⟨by decide, by decide⟩ 3 rfl (Nat.le_of_ble_eq_true rfl) [(.double (4652007308841189376 : UInt64)), (.double (4652016104934211584 : UInt64)), (.double (4652024901027233792 : UInt64)), (.double e0), (.double (0 : UInt64)), (.double (0 : UInt64))] rfl 296 rfl (hb hby at_295) fun T1636 h1636 X1636 e1636 W1636 f1637 => ?_
            have f1638 := f1629.wr W1636
            have f1639 := f1630.wr W1636
            have f1640 := f1631.other W1636 ne1601
            have f1641 := f1632.other W1636 ne1600
            have f1642 := f1633.wr W1636
            have z1643 := Nat.le_trans z1634 (Keep.of_wr W1636).1
            have N1644 := Fr.snoc X1636 N1635 ge1602
            refine own_aload X1636 hx 298 rfl (hb hby at_296) rfl rfl ?_
            refine own_iconst X1636 hx 299 rfl (hb hby at_298) (4 : Int32) rfl ?_
            refine own_aload X1636 hx 301 rfl (hb hby at_299) rfl rfl ?_
            refine own_iconst X1636 hx 302 rfl (hb hby at_301) (4 : Int32) rfl ?_
            refine own_ldD X1636 hx hZ e1636 f1641 ⟨by decide, by decide⟩ e1 rfl 303 rfl (hb hby at_302) ?_
            refine own_stD X1636 hx hZ e1636 f1637 ⟨by decide, by decide⟩ 4 rfl (Nat.le_of_ble_eq_true rfl) [(.double (4652007308841189376 : UInt64)), (.double (4652016104934211584 : UInt64)), (.double (4652024901027233792 : UInt64)), (.double e0), (.double e1), (.double (0 : UInt64))] rfl 304 rfl (hb hby at_303) fun T1645 h1645 X1645 e1645 W1645 f1646 => ?_
            have f1647 := f1638.wr W1645
            have f1648 := f1639.wr W1645
            have f1649 := f1640.other W1645 ne1601
            have f1650 := f1641.other W1645 ne1600
            have f1651 := f1642.wr W1645
            have z1652 := Nat.le_trans z1643 (Keep.of_wr W1645).1
            have N1653 := Fr.snoc X1645 N1644 ge1602
            refine own_aload X1645 hx 306 rfl (hb hby at_304) rfl rfl ?_
            refine own_iconst X1645 hx 307 rfl (hb hby at_306) (5 : Int32) rfl ?_
            refine own_aload X1645 hx 309 rfl (hb hby at_307) rfl rfl ?_
            refine own_iconst X1645 hx 310 rfl (hb hby at_309) (5 : Int32) rfl ?_
            refine own_ldD X1645 hx hZ e1645 f1650 ⟨by decide, by decide⟩ e2 rfl 311 rfl (hb hby at_310) ?_
            refine own_stD X1645 hx hZ e1645 f1646 ⟨by decide, by decide⟩ 5 rfl (Nat.le_of_ble_eq_true rfl) [(.double (4652007308841189376 : UInt64)), (.double (4652016104934211584 : UInt64)), (.double (4652024901027233792 : UInt64)), (.double e0), (.double e1), (.double e2)] rfl 312 rfl (hb hby at_311) fun T1654 h1654 X1654 e1654 W1654 f1655 => ?_
            have f1656 := f1647.wr W1654
            have f1657 := f1648.wr W1654
            have f1658 := f1649.other W1654 ne1601
            have f1659 := f1650.other W1654 ne1600
            have f1660 := f1651.wr W1654
            have z1661 := Nat.le_trans z1652 (Keep.of_wr W1654).1
            have N1662 := Fr.snoc X1654 N1653 ge1602
            refine own_bipush X1654 hx 314 rfl (hb hby at_312) (6 : Int32) rfl ?_
            refine own_newA X1654 hx hZ (own_hw hw 2 rfl) e1654 316 rfl (hb hby at_314) (by decide) 6 (by decide) (by decide) (by decide) (by decide) "[I" (by decide) fun T1663 h1663 k1663 b1663 g1663 X1663 e1663 E1663 A1663 C1663 => ?_
            have ne1664 : b365 ≠ b1663 := Nat.ne_of_lt (Nat.lt_of_lt_of_le f1656.lt (Nat.le_of_eq g1663.symm))
            have ne1665 : b369 ≠ b1663 := Nat.ne_of_lt (Nat.lt_of_lt_of_le f1657.lt (Nat.le_of_eq g1663.symm))
            have ne1666 : b1599 ≠ b1663 := Nat.ne_of_lt (Nat.lt_of_lt_of_le f1660.lt (Nat.le_of_eq g1663.symm))
            have ge1667 : n0 ≤ b1663 := Nat.le_trans z1661 (Nat.le_of_eq g1663.symm)
            have f1668 := f1656.ext E1663
            have f1669 := f1657.ext E1663
            have f1670 := f1658.ext E1663
            have f1671 := f1659.ext E1663
            have f1672 := f1660.ext E1663
            have f1673 := f1655.ext E1663
            have z1674 := Nat.le_trans z1661 E1663.1
            have f1675 : Arv Z h1663 b1663 k1663 .int (6 : Int32) [(.int (0 : Int32)), (.int (0 : Int32)), (.int (0 : Int32)), (.int (0 : Int32)), (.int (0 : Int32)), (.int (0 : Int32))] (.int (0 : Int32)) := (Arv.new A1663 (by decide)).pad (pad_rep [] (.int (0 : Int32)) 6)
            refine own_astore X1663 hx 318 rfl (hb hby at_316) rfl #[.val (.int i0), .val (.int i1), .val (.int i2), .val (.double (9218868437227405312 : UInt64)), .second, .val (.int (3 : Int32)), .val (.int (1 : Int32)), .val (.int (own_k i0)), .val (.int f8), .val (.int (own_a0 i1)), .val (.int (own_a1 i1)), .val (.int (own_a2 i1)), .val (.double d), .second, .val (.ref b365), .val (.ref b369), .val (.int (3 : Int32)), .val (.ref b1599), .val (.ref b1663), .unset, .unset, .unset] rfl ?_
            refine own_aload X1663 hx 320 rfl (hb hby at_318) rfl rfl ?_
            refine own_iconst X1663 hx 321 rfl (hb hby at_320) (0 : Int32) rfl ?_
            refine own_aload X1663 hx 323 rfl (hb hby at_321) rfl rfl ?_
            refine own_iconst X1663 hx 324 rfl (hb hby at_323) (0 : Int32) rfl ?_
            refine own_ldI X1663 hx hZ e1663 f1670 ⟨by decide, by decide⟩ (10 : Int32) rfl 325 rfl (hb hby at_324) ?_
            refine own_stI X1663 hx hZ e1663 f1675 ⟨by decide, by decide⟩ 0 rfl (Nat.le_of_ble_eq_true rfl) [(.int (10 : Int32)), (.int (0 : Int32)), (.int (0 : Int32)), (.int (0 : Int32)), (.int (0 : Int32)), (.int (0 : Int32))] rfl 326 rfl (hb hby at_325) fun T1676 h1676 X1676 e1676 W1676 f1677 => ?_
            have f1678 := f1668.wr W1676
            have f1679 := f1669.wr W1676
            have f1680 := f1670.other W1676 ne1665
            have f1681 := f1671.other W1676 ne1664
            have f1682 := f1672.wr W1676
            have f1683 := f1673.other W1676 ne1666
            have f1684 := C1663.wr W1676
            have z1685 := Nat.le_trans z1674 (Keep.of_wr W1676).1
            have N1686 := Fr.snoc X1676 N1662 ge1667
            refine own_aload X1676 hx 328 rfl (hb hby at_326) rfl rfl ?_
            refine own_iconst X1676 hx 329 rfl (hb hby at_328) (1 : Int32) rfl ?_
            refine own_aload X1676 hx 331 rfl (hb hby at_329) rfl rfl ?_
            refine own_iconst X1676 hx 332 rfl (hb hby at_331) (1 : Int32) rfl ?_
            refine own_ldI X1676 hx hZ e1676 f1680 ⟨by decide, by decide⟩ (11 : Int32) rfl 333 rfl (hb hby at_332) ?_
            refine own_stI X1676 hx hZ e1676 f1677 ⟨by decide, by decide⟩ 1 rfl (Nat.le_of_ble_eq_true rfl) [(.int (10 : Int32)), (.int (11 : Int32)), (.int (0 : Int32)), (.int (0 : Int32)), (.int (0 : Int32)), (.int (0 : Int32))] rfl 334 rfl (hb hby at_333) fun T1687 h1687 X1687 e1687 W1687 f1688 => ?_
            have f1689 := f1678.wr W1687
            have f1690 := f1679.wr W1687
            have f1691 := f1680.other W1687 ne1665
            have f1692 := f1681.other W1687 ne1664
            have f1693 := f1682.wr W1687
            have f1694 := f1683.other W1687 ne1666
            have f1695 := f1684.wr W1687
            have z1696 := Nat.le_trans z1685 (Keep.of_wr W1687).1
            have N1697 := Fr.snoc X1687 N1686 ge1667
            refine own_aload X1687 hx 336 rfl (hb hby at_334) rfl rfl ?_
            refine own_iconst X1687 hx 337 rfl (hb hby at_336) (2 : Int32) rfl ?_
            refine own_aload X1687 hx 339 rfl (hb hby at_337) rfl rfl ?_
            refine own_iconst X1687 hx 340 rfl (hb hby at_339) (2 : Int32) rfl ?_
            refine own_ldI X1687 hx hZ e1687 f1691 ⟨by decide, by decide⟩ (12 : Int32) rfl 341 rfl (hb hby at_340) ?_
            refine own_stI X1687 hx hZ e1687 f1688 ⟨by decide, by decide⟩ 2 rfl (Nat.le_of_ble_eq_true rfl) [(.int (10 : Int32)), (.int (11 : Int32)), (.int (12 : Int32)), (.int (0 : Int32)), (.int (0 : Int32)), (.int (0 : Int32))] rfl 342 rfl (hb hby at_341) fun T1698 h1698 X1698 e1698 W1698 f1699 => ?_
            have f1700 := f1689.wr W1698
            have f1701 := f1690.wr W1698
            have f1702 := f1691.other W1698 ne1665
            have f1703 := f1692.other W1698 ne1664
            have f1704 := f1693.wr W1698
            have f1705 := f1694.other W1698 ne1666
            have f1706 := f1695.wr W1698
            have z1707 := Nat.le_trans z1696 (Keep.of_wr W1698).1
            have N1708 := Fr.snoc X1698 N1697 ge1667
            refine own_aload X1698 hx 344 rfl (hb hby at_342) rfl rfl ?_
            refine own_iconst X1698 hx 345 rfl (hb hby at_344) (3 : Int32) rfl ?_
            refine own_aload X1698 hx 347 rfl (hb hby at_345) rfl rfl ?_
            refine own_iconst X1698 hx 348 rfl (hb hby at_347) (3 : Int32) rfl ?_
            refine own_ldI X1698 hx hZ e1698 f1702 ⟨by decide, by decide⟩ (13 : Int32) rfl 349 rfl (hb hby at_348) ?_
            refine own_stI X1698 hx hZ e1698 f1699 ⟨by decide, by decide⟩ 3 rfl (Nat.le_of_ble_eq_true rfl) [(.int (10 : Int32)), (.int (11 : Int32)), (.int (12 : Int32)), (.int (13 : Int32)), (.int (0 : Int32)), (.int (0 : Int32))] rfl 350 rfl (hb hby at_349) fun T1709 h1709 X1709 e1709 W1709 f1710 => ?_
            have f1711 := f1700.wr W1709
            have f1712 := f1701.wr W1709
            have f1713 := f1702.other W1709 ne1665
            have f1714 := f1703.other W1709 ne1664
            have f1715 := f1704.wr W1709
            have f1716 := f1705.other W1709 ne1666
            have f1717 := f1706.wr W1709
            have z1718 := Nat.le_trans z1707 (Keep.of_wr W1709).1
            have N1719 := Fr.snoc X1709 N1708 ge1667
            refine own_aload X1709 hx 352 rfl (hb hby at_350) rfl rfl ?_
            refine own_iconst X1709 hx 353 rfl (hb hby at_352) (4 : Int32) rfl ?_
            refine own_aload X1709 hx 355 rfl (hb hby at_353) rfl rfl ?_
            refine own_iconst X1709 hx 356 rfl (hb hby at_355) (4 : Int32) rfl ?_
            refine own_ldI X1709 hx hZ e1709 f1713 ⟨by decide, by decide⟩ (14 : Int32) rfl 357 rfl (hb hby at_356) ?_
            refine own_stI X1709 hx hZ e1709 f1710 ⟨by decide, by decide⟩ 4 rfl (Nat.le_of_ble_eq_true rfl) [(.int (10 : Int32)), (.int (11 : Int32)), (.int (12 : Int32)), (.int (13 : Int32)), (.int (14 : Int32)), (.int (0 : Int32))] rfl 358 rfl (hb hby at_357) fun T1720 h1720 X1720 e1720 W1720 f1721 => ?_
            have f1722 := f1711.wr W1720
            have f1723 := f1712.wr W1720
            have f1724 := f1713.other W1720 ne1665
            have f1725 := f1714.other W1720 ne1664
            have f1726 := f1715.wr W1720
            have f1727 := f1716.other W1720 ne1666
            have f1728 := f1717.wr W1720
            have z1729 := Nat.le_trans z1718 (Keep.of_wr W1720).1
            have N1730 := Fr.snoc X1720 N1719 ge1667
            refine own_aload X1720 hx 360 rfl (hb hby at_358) rfl rfl ?_
            refine own_iconst X1720 hx 361 rfl (hb hby at_360) (5 : Int32) rfl ?_
            refine own_aload X1720 hx 363 rfl (hb hby at_361) rfl rfl ?_
            refine own_iconst X1720 hx 364 rfl (hb hby at_363) (5 : Int32) rfl ?_
            refine own_ldI X1720 hx hZ e1720 f1724 ⟨by decide, by decide⟩ (15 : Int32) rfl 365 rfl (hb hby at_364) ?_
            refine own_stI X1720 hx hZ e1720 f1721 ⟨by decide, by decide⟩ 5 rfl (Nat.le_of_ble_eq_true rfl) [(.int (10 : Int32)), (.int (11 : Int32)), (.int (12 : Int32)), (.int (13 : Int32)), (.int (14 : Int32)), (.int (15 : Int32))] rfl 366 rfl (hb hby at_365) fun T1731 h1731 X1731 e1731 W1731 f1732 => ?_
            have f1733 := f1722.wr W1731
            have f1734 := f1723.wr W1731
            have f1735 := f1724.other W1731 ne1665
            have f1736 := f1725.other W1731 ne1664
            have f1737 := f1726.wr W1731
            have f1738 := f1727.other W1731 ne1666
            have f1739 := f1728.wr W1731
            have z1740 := Nat.le_trans z1729 (Keep.of_wr W1731).1
            have N1741 := Fr.snoc X1731 N1730 ge1667
            refine own_dload X1731 hx 368 rfl (hb hby at_366) rfl ?_
            refine own_aload X1731 hx 370 rfl (hb hby at_368) rfl rfl ?_
            refine own_iload X1731 hx 372 rfl (hb hby at_370) rfl ?_
            refine own_iload X1731 hx 374 rfl (hb hby at_372) rfl ?_
            refine own_iadd X1731 hx 375 rfl (hb hby at_374) (6 : Int32) rfl ?_
            refine own_iconst X1731 hx 376 rfl (hb hby at_375) (1 : Int32) rfl ?_
            refine own_isub X1731 hx 377 rfl (hb hby at_376) (5 : Int32) rfl ?_
            refine own_ldD X1731 hx hZ e1731 f1736 ⟨by decide, by decide⟩ e2 rfl 378 rfl (hb hby at_377) ?_
            by_cases hc1742 : own_z d < own_z e0
            ·
              refine own_dcmp X1731 hx 379 rfl (hb hby at_378) _ rfl ?_
              refine own_ifNo X1731 hx 382 rfl (hb hby at_379) ((if0 _ _).trans (tlt (own_cg hd nn2 (Int.lt_of_lt_of_le (Int.lt_of_lt_of_le hc1742 la1) la2) .g)).2.1) ?_
              refine own_iconst X1731 hx 383 rfl (hb hby at_382) (1 : Int32) rfl ?_
              refine own_goto X1731 hx 387 (hb hby at_383) (by decide) rfl ?_
              refine own_istore X1731 hx 389 rfl (hb hby at_387) #[.val (.int i0), .val (.int i1), .val (.int i2), .val (.double (9218868437227405312 : UInt64)), .second, .val (.int (3 : Int32)), .val (.int (1 : Int32)), .val (.int (own_k i0)), .val (.int f8), .val (.int (own_a0 i1)), .val (.int (own_a1 i1)), .val (.int (own_a2 i1)), .val (.double d), .second, .val (.ref b365), .val (.ref b369), .val (.int (3 : Int32)), .val (.ref b1599), .val (.ref b1663), .val (.int (1 : Int32)), .unset, .unset] rfl ?_
              refine own_iconst X1731 hx 390 rfl (hb hby at_389) (0 : Int32) rfl ?_
              refine own_istore X1731 hx 392 rfl (hb hby at_390) #[.val (.int i0), .val (.int i1), .val (.int i2), .val (.double (9218868437227405312 : UInt64)), .second, .val (.int (3 : Int32)), .val (.int (1 : Int32)), .val (.int (own_k i0)), .val (.int f8), .val (.int (own_a0 i1)), .val (.int (own_a1 i1)), .val (.int (own_a2 i1)), .val (.double d), .second, .val (.ref b365), .val (.ref b369), .val (.int (3 : Int32)), .val (.ref b1599), .val (.ref b1663), .val (.int (1 : Int32)), .val (.int (0 : Int32)), .unset] rfl ?_
              refine own_aload X1731 hx 394 rfl (hb hby at_392) rfl rfl ?_
              refine own_iload X1731 hx 396 rfl (hb hby at_394) rfl ?_
              refine own_ldD X1731 hx hZ e1731 f1736 ⟨by decide, by decide⟩ e0 rfl 397 rfl (hb hby at_396) ?_
              refine own_dload X1731 hx 399 rfl (hb hby at_397) rfl ?_
              refine own_dcmp X1731 hx 400 rfl (hb hby at_399) _ rfl ?_
              refine own_ifYes X1731 hx 406 (hb hby at_400) ((if0 _ _).trans (tlt (own_cp nn0 hd hc1742 .g)).2.2.1) (by decide) rfl ?_
              refine own_iload X1731 hx 408 rfl (hb hby at_406) rfl ?_
              refine own_iconst X1731 hx 409 rfl (hb hby at_408) (2 : Int32) rfl ?_
              refine own_icmpNo X1731 hx 412 rfl (hb hby at_409) (by decide) ?_
              refine own_aload X1731 hx 414 rfl (hb hby at_412) rfl rfl ?_
              refine own_iload X1731 hx 416 rfl (hb hby at_414) rfl ?_
              refine own_iconst X1731 hx 417 rfl (hb hby at_416) (1 : Int32) rfl ?_
              refine own_iadd X1731 hx 418 rfl (hb hby at_417) (4 : Int32) rfl ?_
              refine own_ldD X1731 hx hZ e1731 f1736 ⟨by decide, by decide⟩ e1 rfl 419 rfl (hb hby at_418) ?_
              refine own_dload X1731 hx 421 rfl (hb hby at_419) rfl ?_
              refine own_dcmp X1731 hx 422 rfl (hb hby at_421) _ rfl ?_
              refine own_ifYes X1731 hx 428 (hb hby at_422) ((if0 _ _).trans (tlt (own_cp nn1 hd (Int.lt_of_lt_of_le hc1742 la1) .g)).2.2.1) (by decide) rfl ?_
              refine own_iload X1731 hx 430 rfl (hb hby at_428) rfl ?_
              refine own_iconst X1731 hx 431 rfl (hb hby at_430) (3 : Int32) rfl ?_
              refine own_icmpNo X1731 hx 434 rfl (hb hby at_431) (by decide) ?_
              refine own_aload X1731 hx 436 rfl (hb hby at_434) rfl rfl ?_
              refine own_iload X1731 hx 438 rfl (hb hby at_436) rfl ?_
              refine own_iconst X1731 hx 439 rfl (hb hby at_438) (2 : Int32) rfl ?_
              refine own_iadd X1731 hx 440 rfl (hb hby at_439) (5 : Int32) rfl ?_
              refine own_ldD X1731 hx hZ e1731 f1736 ⟨by decide, by decide⟩ e2 rfl 441 rfl (hb hby at_440) ?_
              refine own_dload X1731 hx 443 rfl (hb hby at_441) rfl ?_
              refine own_dcmp X1731 hx 444 rfl (hb hby at_443) _ rfl ?_
              refine own_ifYes X1731 hx 450 (hb hby at_444) ((if0 _ _).trans (tlt (own_cp nn2 hd (Int.lt_of_lt_of_le (Int.lt_of_lt_of_le hc1742 la1) la2) .g)).2.2.1) (by decide) rfl ?_
              refine own_iloadN X1731 hx 451 rfl (hb hby at_450) rfl ?_
              refine own_dload X1731 hx 453 rfl (hb hby at_451) rfl ?_
              refine own_iload X1731 hx 455 rfl (hb hby at_453) rfl ?_
              refine own_iload X1731 hx 457 rfl (hb hby at_455) rfl ?_
              refine own_aload X1731 hx 459 rfl (hb hby at_457) rfl rfl ?_
              refine own_aload X1731 hx 461 rfl (hb hby at_459) rfl rfl ?_
              refine own_callS X1731 hx hZ (y := (⟨"com/example/outpost/outpost/model/Distances", "keepNearer", "(IDII[D[I)Z"⟩ : MethodName)) hown (own_hw hw 9 rfl) (own_hw hw 10 rfl) (by decide) (rm_keep_3_1_0 l Z a0 hw [] i2 d b1599 b1663 k1599 k1663 (4652007308841189376 : UInt64) (4652016104934211584 : UInt64) (4652024901027233792 : UInt64) e0 e1 e2 (10 : Int32) (11 : Int32) (12 : Int32) (13 : Int32) (14 : Int32) (15 : Int32) h1731 n0 z1740 f1738 f1732 ne1666 ge1602 ge1667 (own_cg hd nn2 (Int.lt_of_lt_of_le (Int.lt_of_lt_of_le hc1742 la1) la2) .g) (own_cp nn1 hd (Int.lt_of_lt_of_le hc1742 la1) .l) (own_cp nn0 hd hc1742 .l)) (own_hw hw 12 rfl) (own_hw hw 11 rfl) (by decide) e1731 (by rw [hml]; rfl) [(.int i2), (.double d), (.int (1 : Int32)), (.int (3 : Int32)), (.ref b1599), (.ref b1663)] 0 (by decide) (Nat.le_of_eq rfl) (by decide) (by decide) (lenOf own_pd2 rfl) rfl rfl 464 rfl (hb hby at_461) fun v1743 T1743 Lc1743 X1743 hQ1743 => ?_
              obtain ⟨rfl, Nq1743, Kq1743, fu1743, fw1743⟩ := hQ1743
              have N1744 := Fr.app N1741 Nq1743
              have f1745 := f1733.keep Kq1743
              have f1746 := f1734.keep Kq1743
              have f1747 := f1735.keep Kq1743 (ninS ne1601 (ninS ne1665 nin0))
              have f1748 := f1736.keep Kq1743 (ninS ne1600 (ninS ne1664 nin0))
              have f1749 := f1737.keep Kq1743
              have f1751 := f1739.keep Kq1743
              have z1753 := Nat.le_trans z1740 Kq1743.1
              show own_Go _ _ _ _ _ (State.setTop _ (mkF _ 464 _ [(.int (1 : Int32))]))
              refine own_istore X1743 hx 466 rfl (hb hby at_464) #[.val (.int i0), .val (.int i1), .val (.int i2), .val (.double (9218868437227405312 : UInt64)), .second, .val (.int (3 : Int32)), .val (.int (1 : Int32)), .val (.int (own_k i0)), .val (.int f8), .val (.int (own_a0 i1)), .val (.int (own_a1 i1)), .val (.int (own_a2 i1)), .val (.double d), .second, .val (.ref b365), .val (.ref b369), .val (.int (3 : Int32)), .val (.ref b1599), .val (.ref b1663), .val (.int (1 : Int32)), .val (.int (0 : Int32)), .val (.int (1 : Int32))] rfl ?_
              refine own_iload X1743 hx 468 rfl (hb hby at_466) rfl ?_
              refine own_iload X1743 hx 470 rfl (hb hby at_468) rfl ?_
              refine own_icmpNo X1743 hx 473 rfl (hb hby at_470) (by decide) ?_
              refine own_iconst X1743 hx 474 rfl (hb hby at_473) (0 : Int32) rfl ?_
              refine own_iload X1743 hx 476 rfl (hb hby at_474) rfl ?_
              refine own_iload X1743 hx 478 rfl (hb hby at_476) rfl ?_
              refine own_iload X1743 hx 480 rfl (hb hby at_478) rfl ?_
              refine own_iload X1743 hx 482 rfl (hb hby at_480) rfl ?_
              refine own_dload X1743 hx 484 rfl (hb hby at_482) rfl ?_
              refine own_iloadN X1743 hx 485 rfl (hb hby at_484) rfl ?_
              refine own_aload X1743 hx 487 rfl (hb hby at_485) rfl rfl ?_
              refine own_aload X1743 hx 489 rfl (hb hby at_487) rfl rfl ?_
              refine own_aload X1743 hx 491 rfl (hb hby at_489) rfl rfl ?_
              refine own_aload X1743 hx 493 rfl (hb hby at_491) rfl rfl ?_
              refine own_callS X1743 hx hZ (y := (⟨"com/example/outpost/outpost/model/DistancesKeepNearerPinLaw", "same", "(IIIIZDI[D[I[D[I)Z"⟩ : MethodName)) hown (own_hw hw 13 rfl) (own_hw hw 14 rfl) (by decide) (rm_same_A2 l Z a0 hw [] (0 : Int32) (3 : Int32) (3 : Int32) (0 : Int32) d i2 b365 b369 b1599 b1663 k365 k369 k1599 k1663 [(.double (4652007308841189376 : UInt64)), (.double (4652016104934211584 : UInt64)), (.double (4652024901027233792 : UInt64)), (.double e0), (.double e1), (.double e2)] [(.int (10 : Int32)), (.int (11 : Int32)), (.int (12 : Int32)), (.int (13 : Int32)), (.int (14 : Int32)), (.int (15 : Int32))] [(.double (4652007308841189376 : UInt64)), (.double (4652016104934211584 : UInt64)), (.double (4652024901027233792 : UInt64)), (.double d), (.double e0), (.double e1)] [(.int (10 : Int32)), (.int (11 : Int32)), (.int (12 : Int32)), (.int i2), (.int (13 : Int32)), (.int (14 : Int32))] (4652007308841189376 : UInt64) (10 : Int32) T1743.heap n0 z1753 f1748 f1747 fu1743 fw1743 (by decide) (by decide) rfl rfl (by decide) rfl rfl (own_self own_cst.1)) (own_hw hw 16 rfl) (own_hw hw 15 rfl) (by decide) rfl (by rw [hml]; rfl) [(.int (0 : Int32)), (.int (3 : Int32)), (.int (3 : Int32)), (.int (0 : Int32)), (.int (1 : Int32)), (.double d), (.int i2), (.ref b365), (.ref b369), (.ref b1599), (.ref b1663)] 0 (by decide) (Nat.le_of_eq rfl) (by decide) (by decide) (lenOf own_pd3 rfl) rfl rfl 496 rfl (hb hby at_493) fun v1754 T1754 Lc1754 X1754 hQ1754 => ?_
              obtain ⟨rfl, Nq1754, e1754⟩ := hQ1754
              have N1755 := Fr.app N1744 Nq1754
              show own_Go _ _ _ _ _ (State.setTop _ (mkF _ 496 _ [(.int (1 : Int32))]))
              refine own_ifNo X1754 hx 499 rfl (hb hby at_496) (by decide) ?_
              refine own_iconst X1754 hx 500 rfl (hb hby at_499) (1 : Int32) rfl ?_
              refine own_iload X1754 hx 502 rfl (hb hby at_500) rfl ?_
              refine own_iload X1754 hx 504 rfl (hb hby at_502) rfl ?_
              refine own_iload X1754 hx 506 rfl (hb hby at_504) rfl ?_
              refine own_iload X1754 hx 508 rfl (hb hby at_506) rfl ?_
              refine own_dload X1754 hx 510 rfl (hb hby at_508) rfl ?_
              refine own_iloadN X1754 hx 511 rfl (hb hby at_510) rfl ?_
              refine own_aload X1754 hx 513 rfl (hb hby at_511) rfl rfl ?_
              refine own_aload X1754 hx 515 rfl (hb hby at_513) rfl rfl ?_
              refine own_aload X1754 hx 517 rfl (hb hby at_515) rfl rfl ?_
              refine own_aload X1754 hx 519 rfl (hb hby at_517) rfl rfl ?_
              refine own_callS X1754 hx hZ (y := (⟨"com/example/outpost/outpost/model/DistancesKeepNearerPinLaw", "same", "(IIIIZDI[D[I[D[I)Z"⟩ : MethodName)) hown (own_hw hw 13 rfl) (own_hw hw 14 rfl) (by decide) (rm_same_A2 l Z a0 hw [] (1 : Int32) (3 : Int32) (3 : Int32) (0 : Int32) d i2 b365 b369 b1599 b1663 k365 k369 k1599 k1663 [(.double (4652007308841189376 : UInt64)), (.double (4652016104934211584 : UInt64)), (.double (4652024901027233792 : UInt64)), (.double e0), (.double e1), (.double e2)] [(.int (10 : Int32)), (.int (11 : Int32)), (.int (12 : Int32)), (.int (13 : Int32)), (.int (14 : Int32)), (.int (15 : Int32))] [(.double (4652007308841189376 : UInt64)), (.double (4652016104934211584 : UInt64)), (.double (4652024901027233792 : UInt64)), (.double d), (.double e0), (.double e1)] [(.int (10 : Int32)), (.int (11 : Int32)), (.int (12 : Int32)), (.int i2), (.int (13 : Int32)), (.int (14 : Int32))] (4652016104934211584 : UInt64) (11 : Int32) T1743.heap n0 z1753 f1748 f1747 fu1743 fw1743 (by decide) (by decide) rfl rfl (by decide) rfl rfl (own_self own_cst.2.1)) (own_hw hw 16 rfl) (own_hw hw 15 rfl) (by decide) e1754 (by rw [hml]; rfl) [(.int (1 : Int32)), (.int (3 : Int32)), (.int (3 : Int32)), (.int (0 : Int32)), (.int (1 : Int32)), (.double d), (.int i2), (.ref b365), (.ref b369), (.ref b1599), (.ref b1663)] 0 (by decide) (Nat.le_of_eq rfl) (by decide) (by decide) (lenOf own_pd3 rfl) rfl rfl 522 rfl (hb hby at_519) fun v1756 T1756 Lc1756 X1756 hQ1756 => ?_
              obtain ⟨rfl, Nq1756, e1756⟩ := hQ1756
              have N1757 := Fr.app N1755 Nq1756
              show own_Go _ _ _ _ _ (State.setTop _ (mkF _ 522 _ [(.int (1 : Int32))]))
              refine own_ifNo X1756 hx 525 rfl (hb hby at_522) (by decide) ?_
              refine own_iconst X1756 hx 526 rfl (hb hby at_525) (2 : Int32) rfl ?_
              refine own_iload X1756 hx 528 rfl (hb hby at_526) rfl ?_
              refine own_iload X1756 hx 530 rfl (hb hby at_528) rfl ?_
              refine own_iload X1756 hx 532 rfl (hb hby at_530) rfl ?_
              refine own_iload X1756 hx 534 rfl (hb hby at_532) rfl ?_
              refine own_dload X1756 hx 536 rfl (hb hby at_534) rfl ?_
              refine own_iloadN X1756 hx 537 rfl (hb hby at_536) rfl ?_
              refine own_aload X1756 hx 539 rfl (hb hby at_537) rfl rfl ?_
              refine own_aload X1756 hx 541 rfl (hb hby at_539) rfl rfl ?_
              refine own_aload X1756 hx 543 rfl (hb hby at_541) rfl rfl ?_
              refine own_aload X1756 hx 545 rfl (hb hby at_543) rfl rfl ?_
              refine own_callS X1756 hx hZ (y := (⟨"com/example/outpost/outpost/model/DistancesKeepNearerPinLaw", "same", "(IIIIZDI[D[I[D[I)Z"⟩ : MethodName)) hown (own_hw hw 13 rfl) (own_hw hw 14 rfl) (by decide) (rm_same_A2 l Z a0 hw [] (2 : Int32) (3 : Int32) (3 : Int32) (0 : Int32) d i2 b365 b369 b1599 b1663 k365 k369 k1599 k1663 [(.double (4652007308841189376 : UInt64)), (.double (4652016104934211584 : UInt64)), (.double (4652024901027233792 : UInt64)), (.double e0), (.double e1), (.double e2)] [(.int (10 : Int32)), (.int (11 : Int32)), (.int (12 : Int32)), (.int (13 : Int32)), (.int (14 : Int32)), (.int (15 : Int32))] [(.double (4652007308841189376 : UInt64)), (.double (4652016104934211584 : UInt64)), (.double (4652024901027233792 : UInt64)), (.double d), (.double e0), (.double e1)] [(.int (10 : Int32)), (.int (11 : Int32)), (.int (12 : Int32)), (.int i2), (.int (13 : Int32)), (.int (14 : Int32))] (4652024901027233792 : UInt64) (12 : Int32) T1743.heap n0 z1753 f1748 f1747 fu1743 fw1743 (by decide) (by decide) rfl rfl (by decide) rfl rfl (own_self own_cst.2.2.1)) (own_hw hw 16 rfl) (own_hw hw 15 rfl) (by decide) e1756 (by rw [hml]; rfl) [(.int (2 : Int32)), (.int (3 : Int32)), (.int (3 : Int32)), (.int (0 : Int32)), (.int (1 : Int32)), (.double d), (.int i2), (.ref b365), (.ref b369), (.ref b1599), (.ref b1663)] 0 (by decide) (Nat.le_of_eq rfl) (by decide) (by decide) (lenOf own_pd3 rfl) rfl rfl 548 rfl (hb hby at_545) fun v1758 T1758 Lc1758 X1758 hQ1758 => ?_
              obtain ⟨rfl, Nq1758, e1758⟩ := hQ1758
              have N1759 := Fr.app N1757 Nq1758
              show own_Go _ _ _ _ _ (State.setTop _ (mkF _ 548 _ [(.int (1 : Int32))]))
              refine own_ifNo X1758 hx 551 rfl (hb hby at_548) (by decide) ?_
              refine own_iconst X1758 hx 552 rfl (hb hby at_551) (3 : Int32) rfl ?_
              refine own_iload X1758 hx 554 rfl (hb hby at_552) rfl ?_
              refine own_iload X1758 hx 556 rfl (hb hby at_554) rfl ?_
              refine own_iload X1758 hx 558 rfl (hb hby at_556) rfl ?_
              refine own_iload X1758 hx 560 rfl (hb hby at_558) rfl ?_
              refine own_dload X1758 hx 562 rfl (hb hby at_560) rfl ?_
              refine own_iloadN X1758 hx 563 rfl (hb hby at_562) rfl ?_
              refine own_aload X1758 hx 565 rfl (hb hby at_563) rfl rfl ?_
              refine own_aload X1758 hx 567 rfl (hb hby at_565) rfl rfl ?_
              refine own_aload X1758 hx 569 rfl (hb hby at_567) rfl rfl ?_
              refine own_aload X1758 hx 571 rfl (hb hby at_569) rfl rfl ?_
              refine own_callS X1758 hx hZ (y := (⟨"com/example/outpost/outpost/model/DistancesKeepNearerPinLaw", "same", "(IIIIZDI[D[I[D[I)Z"⟩ : MethodName)) hown (own_hw hw 13 rfl) (own_hw hw 14 rfl) (by decide) (rm_same_C l Z a0 hw [] (3 : Int32) (3 : Int32) (3 : Int32) (0 : Int32) d i2 b365 b369 b1599 b1663 k365 k369 k1599 k1663 [(.double (4652007308841189376 : UInt64)), (.double (4652016104934211584 : UInt64)), (.double (4652024901027233792 : UInt64)), (.double e0), (.double e1), (.double e2)] [(.int (10 : Int32)), (.int (11 : Int32)), (.int (12 : Int32)), (.int (13 : Int32)), (.int (14 : Int32)), (.int (15 : Int32))] [(.double (4652007308841189376 : UInt64)), (.double (4652016104934211584 : UInt64)), (.double (4652024901027233792 : UInt64)), (.double d), (.double e0), (.double e1)] [(.int (10 : Int32)), (.int (11 : Int32)), (.int (12 : Int32)), (.int i2), (.int (13 : Int32)), (.int (14 : Int32))] d i2 T1743.heap n0 z1753 f1748 f1747 fu1743 fw1743 (by decide) (by decide) (by decide) (by decide) rfl rfl (by decide) rfl rfl (own_self hd)) (own_hw hw 16 rfl) (own_hw hw 15 rfl) (by decide) e1758 (by rw [hml]; rfl) [(.int (3 : Int32)), (.int (3 : Int32)), (.int (3 : Int32)), (.int (0 : Int32)), (.int (1 : Int32)), (.double d), (.int i2), (.ref b365), (.ref b369), (.ref b1599), (.ref b1663)] 0 (by decide) (Nat.le_of_eq rfl) (by decide) (by decide) (lenOf own_pd3 rfl) rfl rfl 574 rfl (hb hby at_571) fun v1760 T1760 Lc1760 X1760 hQ1760 => ?_
              obtain ⟨rfl, Nq1760, e1760⟩ := hQ1760
              have N1761 := Fr.app N1759 Nq1760
              show own_Go _ _ _ _ _ (State.setTop _ (mkF _ 574 _ [(.int (1 : Int32))]))
              refine own_ifNo X1760 hx 577 rfl (hb hby at_574) (by decide) ?_
              refine own_iconst X1760 hx 578 rfl (hb hby at_577) (4 : Int32) rfl ?_
              refine own_iload X1760 hx 580 rfl (hb hby at_578) rfl ?_
              refine own_iload X1760 hx 582 rfl (hb hby at_580) rfl ?_
              refine own_iload X1760 hx 584 rfl (hb hby at_582) rfl ?_
              refine own_iload X1760 hx 586 rfl (hb hby at_584) rfl ?_
              refine own_dload X1760 hx 588 rfl (hb hby at_586) rfl ?_
              refine own_iloadN X1760 hx 589 rfl (hb hby at_588) rfl ?_
              refine own_aload X1760 hx 591 rfl (hb hby at_589) rfl rfl ?_
              refine own_aload X1760 hx 593 rfl (hb hby at_591) rfl rfl ?_
              refine own_aload X1760 hx 595 rfl (hb hby at_593) rfl rfl ?_
              refine own_aload X1760 hx 597 rfl (hb hby at_595) rfl rfl ?_
              refine own_callS X1760 hx hZ (y := (⟨"com/example/outpost/outpost/model/DistancesKeepNearerPinLaw", "same", "(IIIIZDI[D[I[D[I)Z"⟩ : MethodName)) hown (own_hw hw 13 rfl) (own_hw hw 14 rfl) (by decide) (rm_same_D l Z a0 hw [] (4 : Int32) (3 : Int32) (3 : Int32) (0 : Int32) d i2 b365 b369 b1599 b1663 k365 k369 k1599 k1663 [(.double (4652007308841189376 : UInt64)), (.double (4652016104934211584 : UInt64)), (.double (4652024901027233792 : UInt64)), (.double e0), (.double e1), (.double e2)] [(.int (10 : Int32)), (.int (11 : Int32)), (.int (12 : Int32)), (.int (13 : Int32)), (.int (14 : Int32)), (.int (15 : Int32))] [(.double (4652007308841189376 : UInt64)), (.double (4652016104934211584 : UInt64)), (.double (4652024901027233792 : UInt64)), (.double d), (.double e0), (.double e1)] [(.int (10 : Int32)), (.int (11 : Int32)), (.int (12 : Int32)), (.int i2), (.int (13 : Int32)), (.int (14 : Int32))] e0 (13 : Int32) T1743.heap n0 z1753 f1748 f1747 fu1743 fw1743 (by decide) (by decide) (by decide) (by decide) (by decide) rfl rfl (by decide) rfl rfl (own_self nn0)) (own_hw hw 16 rfl) (own_hw hw 15 rfl) (by decide) e1760 (by rw [hml]; rfl) [(.int (4 : Int32)), (.int (3 : Int32)), (.int (3 : Int32)), (.int (0 : Int32)), (.int (1 : Int32)), (.double d), (.int i2), (.ref b365), (.ref b369), (.ref b1599), (.ref b1663)] 0 (by decide) (Nat.le_of_eq rfl) (by decide) (by decide) (lenOf own_pd3 rfl) rfl rfl 600 rfl (hb hby at_597) fun v1762 T1762 Lc1762 X1762 hQ1762 => ?_
              obtain ⟨rfl, Nq1762, e1762⟩ := hQ1762
              have N1763 := Fr.app N1761 Nq1762
              show own_Go _ _ _ _ _ (State.setTop _ (mkF _ 600 _ [(.int (1 : Int32))]))
              refine own_ifNo X1762 hx 603 rfl (hb hby at_600) (by decide) ?_
              refine own_iconst X1762 hx 604 rfl (hb hby at_603) (5 : Int32) rfl ?_
              refine own_iload X1762 hx 606 rfl (hb hby at_604) rfl ?_
              refine own_iload X1762 hx 608 rfl (hb hby at_606) rfl ?_
              refine own_iload X1762 hx 610 rfl (hb hby at_608) rfl ?_
              refine own_iload X1762 hx 612 rfl (hb hby at_610) rfl ?_
              refine own_dload X1762 hx 614 rfl (hb hby at_612) rfl ?_
              refine own_iloadN X1762 hx 615 rfl (hb hby at_614) rfl ?_
              refine own_aload X1762 hx 617 rfl (hb hby at_615) rfl rfl ?_
              refine own_aload X1762 hx 619 rfl (hb hby at_617) rfl rfl ?_
              refine own_aload X1762 hx 621 rfl (hb hby at_619) rfl rfl ?_
              refine own_aload X1762 hx 623 rfl (hb hby at_621) rfl rfl ?_
              refine own_callS X1762 hx hZ (y := (⟨"com/example/outpost/outpost/model/DistancesKeepNearerPinLaw", "same", "(IIIIZDI[D[I[D[I)Z"⟩ : MethodName)) hown (own_hw hw 13 rfl) (own_hw hw 14 rfl) (by decide) (rm_same_D l Z a0 hw [] (5 : Int32) (3 : Int32) (3 : Int32) (0 : Int32) d i2 b365 b369 b1599 b1663 k365 k369 k1599 k1663 [(.double (4652007308841189376 : UInt64)), (.double (4652016104934211584 : UInt64)), (.double (4652024901027233792 : UInt64)), (.double e0), (.double e1), (.double e2)] [(.int (10 : Int32)), (.int (11 : Int32)), (.int (12 : Int32)), (.int (13 : Int32)), (.int (14 : Int32)), (.int (15 : Int32))] [(.double (4652007308841189376 : UInt64)), (.double (4652016104934211584 : UInt64)), (.double (4652024901027233792 : UInt64)), (.double d), (.double e0), (.double e1)] [(.int (10 : Int32)), (.int (11 : Int32)), (.int (12 : Int32)), (.int i2), (.int (13 : Int32)), (.int (14 : Int32))] e1 (14 : Int32) T1743.heap n0 z1753 f1748 f1747 fu1743 fw1743 (by decide) (by decide) (by decide) (by decide) (by decide) rfl rfl (by decide) rfl rfl (own_self nn1)) (own_hw hw 16 rfl) (own_hw hw 15 rfl) (by decide) e1762 (by rw [hml]; rfl) [(.int (5 : Int32)), (.int (3 : Int32)), (.int (3 : Int32)), (.int (0 : Int32)), (.int (1 : Int32)), (.double d), (.int i2), (.ref b365), (.ref b369), (.ref b1599), (.ref b1663)] 0 (by decide) (Nat.le_of_eq rfl) (by decide) (by decide) (lenOf own_pd3 rfl) rfl rfl 626 rfl (hb hby at_623) fun v1764 T1764 Lc1764 X1764 hQ1764 => ?_
              obtain ⟨rfl, Nq1764, e1764⟩ := hQ1764
              have N1765 := Fr.app N1763 Nq1764
              show own_Go _ _ _ _ _ (State.setTop _ (mkF _ 626 _ [(.int (1 : Int32))]))
              refine own_ifNo X1764 hx 629 rfl (hb hby at_626) (by decide) ?_
              refine own_iconst X1764 hx 630 rfl (hb hby at_629) (1 : Int32) rfl ?_
              refine own_goto X1764 hx 634 (hb hby at_630) (by decide) rfl ?_
              refine own_ret X1764 (some (.int (1 : Int32))) (fun h => by rw [Bd.returns] at h; cases h) Bd.notSynchronized (by decide) (by decide) ?_ (fun fs hr => retN X1764 hx (t := .boolean) Bd.returns (by simp) (hb hby at_634) hr)
              show Q_rm0 Z i0 i1 i2 h0 n0 _ T1764.heap _
              rw [e1764]
              exact ⟨rfl, N1765⟩
            ·
              by_cases hc1766 : own_z d < own_z e1
              ·
                refine own_dcmp X1731 hx 379 rfl (hb hby at_378) _ rfl ?_
                refine own_ifNo X1731 hx 382 rfl (hb hby at_379) ((if0 _ _).trans (tlt (own_cg hd nn2 (Int.lt_of_lt_of_le hc1766 la2) .g)).2.1) ?_
                refine own_iconst X1731 hx 383 rfl (hb hby at_382) (1 : Int32) rfl ?_
                refine own_goto X1731 hx 387 (hb hby at_383) (by decide) rfl ?_
                refine own_istore X1731 hx 389 rfl (hb hby at_387) #[.val (.int i0), .val (.int i1), .val (.int i2), .val (.double (9218868437227405312 : UInt64)), .second, .val (.int (3 : Int32)), .val (.int (1 : Int32)), .val (.int (own_k i0)), .val (.int f8), .val (.int (own_a0 i1)), .val (.int (own_a1 i1)), .val (.int (own_a2 i1)), .val (.double d), .second, .val (.ref b365), .val (.ref b369), .val (.int (3 : Int32)), .val (.ref b1599), .val (.ref b1663), .val (.int (1 : Int32)), .unset, .unset] rfl ?_
                refine own_iconst X1731 hx 390 rfl (hb hby at_389) (0 : Int32) rfl ?_
                refine own_istore X1731 hx 392 rfl (hb hby at_390) #[.val (.int i0), .val (.int i1), .val (.int i2), .val (.double (9218868437227405312 : UInt64)), .second, .val (.int (3 : Int32)), .val (.int (1 : Int32)), .val (.int (own_k i0)), .val (.int f8), .val (.int (own_a0 i1)), .val (.int (own_a1 i1)), .val (.int (own_a2 i1)), .val (.double d), .second, .val (.ref b365), .val (.ref b369), .val (.int (3 : Int32)), .val (.ref b1599), .val (.ref b1663), .val (.int (1 : Int32)), .val (.int (0 : Int32)), .unset] rfl ?_
                refine own_aload X1731 hx 394 rfl (hb hby at_392) rfl rfl ?_
                refine own_iload X1731 hx 396 rfl (hb hby at_394) rfl ?_
                refine own_ldD X1731 hx hZ e1731 f1736 ⟨by decide, by decide⟩ e0 rfl 397 rfl (hb hby at_396) ?_
                refine own_dload X1731 hx 399 rfl (hb hby at_397) rfl ?_
                refine own_dcmp X1731 hx 400 rfl (hb hby at_399) _ rfl ?_
                refine own_ifNo X1731 hx 403 rfl (hb hby at_400) ((if0 _ _).trans (flt (own_cmp_le nn0 hd (Int.not_lt.mp hc1742) .g)).2.2.1) ?_
                refine own_iinc X1731 hx 406 rfl (hb hby at_403) rfl #[.val (.int i0), .val (.int i1), .val (.int i2), .val (.double (9218868437227405312 : UInt64)), .second, .val (.int (3 : Int32)), .val (.int (1 : Int32)), .val (.int (own_k i0)), .val (.int f8), .val (.int (own_a0 i1)), .val (.int (own_a1 i1)), .val (.int (own_a2 i1)), .val (.double d), .second, .val (.ref b365), .val (.ref b369), .val (.int (3 : Int32)), .val (.ref b1599), .val (.ref b1663), .val (.int (1 : Int32)), .val (.int (1 : Int32)), .unset] rfl ?_
                refine own_iload X1731 hx 408 rfl (hb hby at_406) rfl ?_
                refine own_iconst X1731 hx 409 rfl (hb hby at_408) (2 : Int32) rfl ?_
                refine own_icmpNo X1731 hx 412 rfl (hb hby at_409) (by decide) ?_
                refine own_aload X1731 hx 414 rfl (hb hby at_412) rfl rfl ?_
                refine own_iload X1731 hx 416 rfl (hb hby at_414) rfl ?_
                refine own_iconst X1731 hx 417 rfl (hb hby at_416) (1 : Int32) rfl ?_
                refine own_iadd X1731 hx 418 rfl (hb hby at_417) (4 : Int32) rfl ?_
                refine own_ldD X1731 hx hZ e1731 f1736 ⟨by decide, by decide⟩ e1 rfl 419 rfl (hb hby at_418) ?_
                refine own_dload X1731 hx 421 rfl (hb hby at_419) rfl ?_
                refine own_dcmp X1731 hx 422 rfl (hb hby at_421) _ rfl ?_
                refine own_ifYes X1731 hx 428 (hb hby at_422) ((if0 _ _).trans (tlt (own_cp nn1 hd hc1766 .g)).2.2.1) (by decide) rfl ?_
                refine own_iload X1731 hx 430 rfl (hb hby at_428) rfl ?_
                refine own_iconst X1731 hx 431 rfl (hb hby at_430) (3 : Int32) rfl ?_
                refine own_icmpNo X1731 hx 434 rfl (hb hby at_431) (by decide) ?_
                refine own_aload X1731 hx 436 rfl (hb hby at_434) rfl rfl ?_
                refine own_iload X1731 hx 438 rfl (hb hby at_436) rfl ?_
                refine own_iconst X1731 hx 439 rfl (hb hby at_438) (2 : Int32) rfl ?_
                refine own_iadd X1731 hx 440 rfl (hb hby at_439) (5 : Int32) rfl ?_
                refine own_ldD X1731 hx hZ e1731 f1736 ⟨by decide, by decide⟩ e2 rfl 441 rfl (hb hby at_440) ?_
                refine own_dload X1731 hx 443 rfl (hb hby at_441) rfl ?_
                refine own_dcmp X1731 hx 444 rfl (hb hby at_443) _ rfl ?_
                refine own_ifYes X1731 hx 450 (hb hby at_444) ((if0 _ _).trans (tlt (own_cp nn2 hd (Int.lt_of_lt_of_le hc1766 la2) .g)).2.2.1) (by decide) rfl ?_
                refine own_iloadN X1731 hx 451 rfl (hb hby at_450) rfl ?_
                refine own_dload X1731 hx 453 rfl (hb hby at_451) rfl ?_
                refine own_iload X1731 hx 455 rfl (hb hby at_453) rfl ?_
                refine own_iload X1731 hx 457 rfl (hb hby at_455) rfl ?_
                refine own_aload X1731 hx 459 rfl (hb hby at_457) rfl rfl ?_
                refine own_aload X1731 hx 461 rfl (hb hby at_459) rfl rfl ?_
                refine own_callS X1731 hx hZ (y := (⟨"com/example/outpost/outpost/model/Distances", "keepNearer", "(IDII[D[I)Z"⟩ : MethodName)) hown (own_hw hw 9 rfl) (own_hw hw 10 rfl) (by decide) (rm_keep_3_1_1 l Z a0 hw [] i2 d b1599 b1663 k1599 k1663 (4652007308841189376 : UInt64) (4652016104934211584 : UInt64) (4652024901027233792 : UInt64) e0 e1 e2 (10 : Int32) (11 : Int32) (12 : Int32) (13 : Int32) (14 : Int32) (15 : Int32) h1731 n0 z1740 f1738 f1732 ne1666 ge1602 ge1667 (own_cg hd nn2 (Int.lt_of_lt_of_le hc1766 la2) .g) (own_cp nn1 hd hc1766 .l) (own_cmp_le nn0 hd (Int.not_lt.mp hc1742) .l)) (own_hw hw 12 rfl) (own_hw hw 11 rfl) (by decide) e1731 (by rw [hml]; rfl) [(.int i2), (.double d), (.int (1 : Int32)), (.int (3 : Int32)), (.ref b1599), (.ref b1663)] 0 (by decide) (Nat.le_of_eq rfl) (by decide) (by decide) (lenOf own_pd2 rfl) rfl rfl 464 rfl (hb hby at_461) fun v1767 T1767 Lc1767 X1767 hQ1767 => ?_
                obtain ⟨rfl, Nq1767, Kq1767, fu1767, fw1767⟩ := hQ1767
                have N1768 := Fr.app N1741 Nq1767
                have f1769 := f1733.keep Kq1767
                have f1770 := f1734.keep Kq1767
                have f1771 := f1735.keep Kq1767 (ninS ne1601 (ninS ne1665 nin0))
                have f1772 := f1736.keep Kq1767 (ninS ne1600 (ninS ne1664 nin0))
                have f1773 := f1737.keep Kq1767
                have f1775 := f1739.keep Kq1767
                have z1777 := Nat.le_trans z1740 Kq1767.1
                show own_Go _ _ _ _ _ (State.setTop _ (mkF _ 464 _ [(.int (1 : Int32))]))
                refine own_istore X1767 hx 466 rfl (hb hby at_464) #[.val (.int i0), .val (.int i1), .val (.int i2), .val (.double (9218868437227405312 : UInt64)), .second, .val (.int (3 : Int32)), .val (.int (1 : Int32)), .val (.int (own_k i0)), .val (.int f8), .val (.int (own_a0 i1)), .val (.int (own_a1 i1)), .val (.int (own_a2 i1)), .val (.double d), .second, .val (.ref b365), .val (.ref b369), .val (.int (3 : Int32)), .val (.ref b1599), .val (.ref b1663), .val (.int (1 : Int32)), .val (.int (1 : Int32)), .val (.int (1 : Int32))] rfl ?_
                refine own_iload X1767 hx 468 rfl (hb hby at_466) rfl ?_
                refine own_iload X1767 hx 470 rfl (hb hby at_468) rfl ?_
                refine own_icmpNo X1767 hx 473 rfl (hb hby at_470) (by decide) ?_
                refine own_iconst X1767 hx 474 rfl (hb hby at_473) (0 : Int32) rfl ?_
                refine own_iload X1767 hx 476 rfl (hb hby at_474) rfl ?_
                refine own_iload X1767 hx 478 rfl (hb hby at_476) rfl ?_
                refine own_iload X1767 hx 480 rfl (hb hby at_478) rfl ?_
                refine own_iload X1767 hx 482 rfl (hb hby at_480) rfl ?_
                refine own_dload X1767 hx 484 rfl (hb hby at_482) rfl ?_
                refine own_iloadN X1767 hx 485 rfl (hb hby at_484) rfl ?_
                refine own_aload X1767 hx 487 rfl (hb hby at_485) rfl rfl ?_
                refine own_aload X1767 hx 489 rfl (hb hby at_487) rfl rfl ?_
                refine own_aload X1767 hx 491 rfl (hb hby at_489) rfl rfl ?_
                refine own_aload X1767 hx 493 rfl (hb hby at_491) rfl rfl ?_
                refine own_callS X1767 hx hZ (y := (⟨"com/example/outpost/outpost/model/DistancesKeepNearerPinLaw", "same", "(IIIIZDI[D[I[D[I)Z"⟩ : MethodName)) hown (own_hw hw 13 rfl) (own_hw hw 14 rfl) (by decide) (rm_same_A2 l Z a0 hw [] (0 : Int32) (3 : Int32) (3 : Int32) (1 : Int32) d i2 b365 b369 b1599 b1663 k365 k369 k1599 k1663 [(.double (4652007308841189376 : UInt64)), (.double (4652016104934211584 : UInt64)), (.double (4652024901027233792 : UInt64)), (.double e0), (.double e1), (.double e2)] [(.int (10 : Int32)), (.int (11 : Int32)), (.int (12 : Int32)), (.int (13 : Int32)), (.int (14 : Int32)), (.int (15 : Int32))] [(.double (4652007308841189376 : UInt64)), (.double (4652016104934211584 : UInt64)), (.double (4652024901027233792 : UInt64)), (.double e0), (.double d), (.double e1)] [(.int (10 : Int32)), (.int (11 : Int32)), (.int (12 : Int32)), (.int (13 : Int32)), (.int i2), (.int (14 : Int32))] (4652007308841189376 : UInt64) (10 : Int32) T1767.heap n0 z1777 f1772 f1771 fu1767 fw1767 (by decide) (by decide) rfl rfl (by decide) rfl rfl (own_self own_cst.1)) (own_hw hw 16 rfl) (own_hw hw 15 rfl) (by decide) rfl (by rw [hml]; rfl) [(.int (0 : Int32)), (.int (3 : Int32)), (.int (3 : Int32)), (.int (1 : Int32)), (.int (1 : Int32)), (.double d), (.int i2), (.ref b365), (.ref b369), (.ref b1599), (.ref b1663)] 0 (by decide) (Nat.le_of_eq rfl) (by decide) (by decide) (lenOf own_pd3 rfl) rfl rfl 496 rfl (hb hby at_493) fun v1778 T1778 Lc1778 X1778 hQ1778 => ?_
                obtain ⟨rfl, Nq1778, e1778⟩ := hQ1778
                have N1779 := Fr.app N1768 Nq1778
                show own_Go _ _ _ _ _ (State.setTop _ (mkF _ 496 _ [(.int (1 : Int32))]))
                refine own_ifNo X1778 hx 499 rfl (hb hby at_496) (by decide) ?_
                refine own_iconst X1778 hx 500 rfl (hb hby at_499) (1 : Int32) rfl ?_
                refine own_iload X1778 hx 502 rfl (hb hby at_500) rfl ?_
                refine own_iload X1778 hx 504 rfl (hb hby at_502) rfl ?_
                refine own_iload X1778 hx 506 rfl (hb hby at_504) rfl ?_
                refine own_iload X1778 hx 508 rfl (hb hby at_506) rfl ?_
                refine own_dload X1778 hx 510 rfl (hb hby at_508) rfl ?_
                refine own_iloadN X1778 hx 511 rfl (hb hby at_510) rfl ?_
                refine own_aload X1778 hx 513 rfl (hb hby at_511) rfl rfl ?_
                refine own_aload X1778 hx 515 rfl (hb hby at_513) rfl rfl ?_
                refine own_aload X1778 hx 517 rfl (hb hby at_515) rfl rfl ?_
                refine own_aload X1778 hx 519 rfl (hb hby at_517) rfl rfl ?_
                refine own_callS X1778 hx hZ (y := (⟨"com/example/outpost/outpost/model/DistancesKeepNearerPinLaw", "same", "(IIIIZDI[D[I[D[I)Z"⟩ : MethodName)) hown (own_hw hw 13 rfl) (own_hw hw 14 rfl) (by decide) (rm_same_A2 l Z a0 hw [] (1 : Int32) (3 : Int32) (3 : Int32) (1 : Int32) d i2 b365 b369 b1599 b1663 k365 k369 k1599 k1663 [(.double (4652007308841189376 : UInt64)), (.double (4652016104934211584 : UInt64)), (.double (4652024901027233792 : UInt64)), (.double e0), (.double e1), (.double e2)] [(.int (10 : Int32)), (.int (11 : Int32)), (.int (12 : Int32)), (.int (13 : Int32)), (.int (14 : Int32)), (.int (15 : Int32))] [(.double (4652007308841189376 : UInt64)), (.double (4652016104934211584 : UInt64)), (.double (4652024901027233792 : UInt64)), (.double e0), (.double d), (.double e1)] [(.int (10 : Int32)), (.int (11 : Int32)), (.int (12 : Int32)), (.int (13 : Int32)), (.int i2), (.int (14 : Int32))] (4652016104934211584 : UInt64) (11 : Int32) T1767.heap n0 z1777 f1772 f1771 fu1767 fw1767 (by decide) (by decide) rfl rfl (by decide) rfl rfl (own_self own_cst.2.1)) (own_hw hw 16 rfl) (own_hw hw 15 rfl) (by decide) e1778 (by rw [hml]; rfl) [(.int (1 : Int32)), (.int (3 : Int32)), (.int (3 : Int32)), (.int (1 : Int32)), (.int (1 : Int32)), (.double d), (.int i2), (.ref b365), (.ref b369), (.ref b1599), (.ref b1663)] 0 (by decide) (Nat.le_of_eq rfl) (by decide) (by decide) (lenOf own_pd3 rfl) rfl rfl 522 rfl (hb hby at_519) fun v1780 T1780 Lc1780 X1780 hQ1780 => ?_
                obtain ⟨rfl, Nq1780, e1780⟩ := hQ1780
                have N1781 := Fr.app N1779 Nq1780
                show own_Go _ _ _ _ _ (State.setTop _ (mkF _ 522 _ [(.int (1 : Int32))]))
                refine own_ifNo X1780 hx 525 rfl (hb hby at_522) (by decide) ?_
                refine own_iconst X1780 hx 526 rfl (hb hby at_525) (2 : Int32) rfl ?_
                refine own_iload X1780 hx 528 rfl (hb hby at_526) rfl ?_
                refine own_iload X1780 hx 530 rfl (hb hby at_528) rfl ?_
                refine own_iload X1780 hx 532 rfl (hb hby at_530) rfl ?_
                refine own_iload X1780 hx 534 rfl (hb hby at_532) rfl ?_
                refine own_dload X1780 hx 536 rfl (hb hby at_534) rfl ?_
                refine own_iloadN X1780 hx 537 rfl (hb hby at_536) rfl ?_
                refine own_aload X1780 hx 539 rfl (hb hby at_537) rfl rfl ?_
                refine own_aload X1780 hx 541 rfl (hb hby at_539) rfl rfl ?_
                refine own_aload X1780 hx 543 rfl (hb hby at_541) rfl rfl ?_
                refine own_aload X1780 hx 545 rfl (hb hby at_543) rfl rfl ?_
                refine own_callS X1780 hx hZ (y := (⟨"com/example/outpost/outpost/model/DistancesKeepNearerPinLaw", "same", "(IIIIZDI[D[I[D[I)Z"⟩ : MethodName)) hown (own_hw hw 13 rfl) (own_hw hw 14 rfl) (by decide) (rm_same_A2 l Z a0 hw [] (2 : Int32) (3 : Int32) (3 : Int32) (1 : Int32) d i2 b365 b369 b1599 b1663 k365 k369 k1599 k1663 [(.double (4652007308841189376 : UInt64)), (.double (4652016104934211584 : UInt64)), (.double (4652024901027233792 : UInt64)), (.double e0), (.double e1), (.double e2)] [(.int (10 : Int32)), (.int (11 : Int32)), (.int (12 : Int32)), (.int (13 : Int32)), (.int (14 : Int32)), (.int (15 : Int32))] [(.double (4652007308841189376 : UInt64)), (.double (4652016104934211584 : UInt64)), (.double (4652024901027233792 : UInt64)), (.double e0), (.double d), (.double e1)] [(.int (10 : Int32)), (.int (11 : Int32)), (.int (12 : Int32)), (.int (13 : Int32)), (.int i2), (.int (14 : Int32))] (4652024901027233792 : UInt64) (12 : Int32) T1767.heap n0 z1777 f1772 f1771 fu1767 fw1767 (by decide) (by decide) rfl rfl (by decide) rfl rfl (own_self own_cst.2.2.1)) (own_hw hw 16 rfl) (own_hw hw 15 rfl) (by decide) e1780 (by rw [hml]; rfl) [(.int (2 : Int32)), (.int (3 : Int32)), (.int (3 : Int32)), (.int (1 : Int32)), (.int (1 : Int32)), (.double d), (.int i2), (.ref b365), (.ref b369), (.ref b1599), (.ref b1663)] 0 (by decide) (Nat.le_of_eq rfl) (by decide) (by decide) (lenOf own_pd3 rfl) rfl rfl 548 rfl (hb hby at_545) fun v1782 T1782 Lc1782 X1782 hQ1782 => ?_
                obtain ⟨rfl, Nq1782, e1782⟩ := hQ1782
                have N1783 := Fr.app N1781 Nq1782
                show own_Go _ _ _ _ _ (State.setTop _ (mkF _ 548 _ [(.int (1 : Int32))]))
                refine own_ifNo X1782 hx 551 rfl (hb hby at_548) (by decide) ?_
                refine own_iconst X1782 hx 552 rfl (hb hby at_551) (3 : Int32) rfl ?_
                refine own_iload X1782 hx 554 rfl (hb hby at_552) rfl ?_
                refine own_iload X1782 hx 556 rfl (hb hby at_554) rfl ?_
                refine own_iload X1782 hx 558 rfl (hb hby at_556) rfl ?_
                refine own_iload X1782 hx 560 rfl (hb hby at_558) rfl ?_
                refine own_dload X1782 hx 562 rfl (hb hby at_560) rfl ?_
                refine own_iloadN X1782 hx 563 rfl (hb hby at_562) rfl ?_
                refine own_aload X1782 hx 565 rfl (hb hby at_563) rfl rfl ?_
                refine own_aload X1782 hx 567 rfl (hb hby at_565) rfl rfl ?_
                refine own_aload X1782 hx 569 rfl (hb hby at_567) rfl rfl ?_
                refine own_aload X1782 hx 571 rfl (hb hby at_569) rfl rfl ?_
                refine own_callS X1782 hx hZ (y := (⟨"com/example/outpost/outpost/model/DistancesKeepNearerPinLaw", "same", "(IIIIZDI[D[I[D[I)Z"⟩ : MethodName)) hown (own_hw hw 13 rfl) (own_hw hw 14 rfl) (by decide) (rm_same_B l Z a0 hw [] (3 : Int32) (3 : Int32) (3 : Int32) (1 : Int32) d i2 b365 b369 b1599 b1663 k365 k369 k1599 k1663 [(.double (4652007308841189376 : UInt64)), (.double (4652016104934211584 : UInt64)), (.double (4652024901027233792 : UInt64)), (.double e0), (.double e1), (.double e2)] [(.int (10 : Int32)), (.int (11 : Int32)), (.int (12 : Int32)), (.int (13 : Int32)), (.int (14 : Int32)), (.int (15 : Int32))] [(.double (4652007308841189376 : UInt64)), (.double (4652016104934211584 : UInt64)), (.double (4652024901027233792 : UInt64)), (.double e0), (.double d), (.double e1)] [(.int (10 : Int32)), (.int (11 : Int32)), (.int (12 : Int32)), (.int (13 : Int32)), (.int i2), (.int (14 : Int32))] e0 (13 : Int32) T1767.heap n0 z1777 f1772 f1771 fu1767 fw1767 (by decide) (by decide) (by decide) (by decide) rfl rfl (by decide) rfl rfl (own_self nn0)) (own_hw hw 16 rfl) (own_hw hw 15 rfl) (by decide) e1782 (by rw [hml]; rfl) [(.int (3 : Int32)), (.int (3 : Int32)), (.int (3 : Int32)), (.int (1 : Int32)), (.int (1 : Int32)), (.double d), (.int i2), (.ref b365), (.ref b369), (.ref b1599), (.ref b1663)] 0 (by decide) (Nat.le_of_eq rfl) (by decide) (by decide) (lenOf own_pd3 rfl) rfl rfl 574 rfl (hb hby at_571) fun v1784 T1784 Lc1784 X1784 hQ1784 => ?_
                obtain ⟨rfl, Nq1784, e1784⟩ := hQ1784
                have N1785 := Fr.app N1783 Nq1784
                show own_Go _ _ _ _ _ (State.setTop _ (mkF _ 574 _ [(.int (1 : Int32))]))
                refine own_ifNo X1784 hx 577 rfl (hb hby at_574) (by decide) ?_
                refine own_iconst X1784 hx 578 rfl (hb hby at_577) (4 : Int32) rfl ?_
                refine own_iload X1784 hx 580 rfl (hb hby at_578) rfl ?_
                refine own_iload X1784 hx 582 rfl (hb hby at_580) rfl ?_
                refine own_iload X1784 hx 584 rfl (hb hby at_582) rfl ?_
                refine own_iload X1784 hx 586 rfl (hb hby at_584) rfl ?_
                refine own_dload X1784 hx 588 rfl (hb hby at_586) rfl ?_
                refine own_iloadN X1784 hx 589 rfl (hb hby at_588) rfl ?_
                refine own_aload X1784 hx 591 rfl (hb hby at_589) rfl rfl ?_
                refine own_aload X1784 hx 593 rfl (hb hby at_591) rfl rfl ?_
                refine own_aload X1784 hx 595 rfl (hb hby at_593) rfl rfl ?_
                refine own_aload X1784 hx 597 rfl (hb hby at_595) rfl rfl ?_
                refine own_callS X1784 hx hZ (y := (⟨"com/example/outpost/outpost/model/DistancesKeepNearerPinLaw", "same", "(IIIIZDI[D[I[D[I)Z"⟩ : MethodName)) hown (own_hw hw 13 rfl) (own_hw hw 14 rfl) (by decide) (rm_same_C l Z a0 hw [] (4 : Int32) (3 : Int32) (3 : Int32) (1 : Int32) d i2 b365 b369 b1599 b1663 k365 k369 k1599 k1663 [(.double (4652007308841189376 : UInt64)), (.double (4652016104934211584 : UInt64)), (.double (4652024901027233792 : UInt64)), (.double e0), (.double e1), (.double e2)] [(.int (10 : Int32)), (.int (11 : Int32)), (.int (12 : Int32)), (.int (13 : Int32)), (.int (14 : Int32)), (.int (15 : Int32))] [(.double (4652007308841189376 : UInt64)), (.double (4652016104934211584 : UInt64)), (.double (4652024901027233792 : UInt64)), (.double e0), (.double d), (.double e1)] [(.int (10 : Int32)), (.int (11 : Int32)), (.int (12 : Int32)), (.int (13 : Int32)), (.int i2), (.int (14 : Int32))] d i2 T1767.heap n0 z1777 f1772 f1771 fu1767 fw1767 (by decide) (by decide) (by decide) (by decide) rfl rfl (by decide) rfl rfl (own_self hd)) (own_hw hw 16 rfl) (own_hw hw 15 rfl) (by decide) e1784 (by rw [hml]; rfl) [(.int (4 : Int32)), (.int (3 : Int32)), (.int (3 : Int32)), (.int (1 : Int32)), (.int (1 : Int32)), (.double d), (.int i2), (.ref b365), (.ref b369), (.ref b1599), (.ref b1663)] 0 (by decide) (Nat.le_of_eq rfl) (by decide) (by decide) (lenOf own_pd3 rfl) rfl rfl 600 rfl (hb hby at_597) fun v1786 T1786 Lc1786 X1786 hQ1786 => ?_
                obtain ⟨rfl, Nq1786, e1786⟩ := hQ1786
                have N1787 := Fr.app N1785 Nq1786
                show own_Go _ _ _ _ _ (State.setTop _ (mkF _ 600 _ [(.int (1 : Int32))]))
                refine own_ifNo X1786 hx 603 rfl (hb hby at_600) (by decide) ?_
                refine own_iconst X1786 hx 604 rfl (hb hby at_603) (5 : Int32) rfl ?_
                refine own_iload X1786 hx 606 rfl (hb hby at_604) rfl ?_
                refine own_iload X1786 hx 608 rfl (hb hby at_606) rfl ?_
                refine own_iload X1786 hx 610 rfl (hb hby at_608) rfl ?_
                refine own_iload X1786 hx 612 rfl (hb hby at_610) rfl ?_
                refine own_dload X1786 hx 614 rfl (hb hby at_612) rfl ?_
                refine own_iloadN X1786 hx 615 rfl (hb hby at_614) rfl ?_
                refine own_aload X1786 hx 617 rfl (hb hby at_615) rfl rfl ?_
                refine own_aload X1786 hx 619 rfl (hb hby at_617) rfl rfl ?_
                refine own_aload X1786 hx 621 rfl (hb hby at_619) rfl rfl ?_
                refine own_aload X1786 hx 623 rfl (hb hby at_621) rfl rfl ?_
                refine own_callS X1786 hx hZ (y := (⟨"com/example/outpost/outpost/model/DistancesKeepNearerPinLaw", "same", "(IIIIZDI[D[I[D[I)Z"⟩ : MethodName)) hown (own_hw hw 13 rfl) (own_hw hw 14 rfl) (by decide) (rm_same_D l Z a0 hw [] (5 : Int32) (3 : Int32) (3 : Int32) (1 : Int32) d i2 b365 b369 b1599 b1663 k365 k369 k1599 k1663 [(.double (4652007308841189376 : UInt64)), (.double (4652016104934211584 : UInt64)), (.double (4652024901027233792 : UInt64)), (.double e0), (.double e1), (.double e2)] [(.int (10 : Int32)), (.int (11 : Int32)), (.int (12 : Int32)), (.int (13 : Int32)), (.int (14 : Int32)), (.int (15 : Int32))] [(.double (4652007308841189376 : UInt64)), (.double (4652016104934211584 : UInt64)), (.double (4652024901027233792 : UInt64)), (.double e0), (.double d), (.double e1)] [(.int (10 : Int32)), (.int (11 : Int32)), (.int (12 : Int32)), (.int (13 : Int32)), (.int i2), (.int (14 : Int32))] e1 (14 : Int32) T1767.heap n0 z1777 f1772 f1771 fu1767 fw1767 (by decide) (by decide) (by decide) (by decide) (by decide) rfl rfl (by decide) rfl rfl (own_self nn1)) (own_hw hw 16 rfl) (own_hw hw 15 rfl) (by decide) e1786 (by rw [hml]; rfl) [(.int (5 : Int32)), (.int (3 : Int32)), (.int (3 : Int32)), (.int (1 : Int32)), (.int (1 : Int32)), (.double d), (.int i2), (.ref b365), (.ref b369), (.ref b1599), (.ref b1663)] 0 (by decide) (Nat.le_of_eq rfl) (by decide) (by decide) (lenOf own_pd3 rfl) rfl rfl 626 rfl (hb hby at_623) fun v1788 T1788 Lc1788 X1788 hQ1788 => ?_
                obtain ⟨rfl, Nq1788, e1788⟩ := hQ1788
                have N1789 := Fr.app N1787 Nq1788
                show own_Go _ _ _ _ _ (State.setTop _ (mkF _ 626 _ [(.int (1 : Int32))]))
                refine own_ifNo X1788 hx 629 rfl (hb hby at_626) (by decide) ?_
                refine own_iconst X1788 hx 630 rfl (hb hby at_629) (1 : Int32) rfl ?_
                refine own_goto X1788 hx 634 (hb hby at_630) (by decide) rfl ?_
                refine own_ret X1788 (some (.int (1 : Int32))) (fun h => by rw [Bd.returns] at h; cases h) Bd.notSynchronized (by decide) (by decide) ?_ (fun fs hr => retN X1788 hx (t := .boolean) Bd.returns (by simp) (hb hby at_634) hr)
                show Q_rm0 Z i0 i1 i2 h0 n0 _ T1788.heap _
                rw [e1788]
                exact ⟨rfl, N1789⟩
              ·
                by_cases hc1790 : own_z d < own_z e2
                ·
                  refine own_dcmp X1731 hx 379 rfl (hb hby at_378) _ rfl ?_
                  refine own_ifNo X1731 hx 382 rfl (hb hby at_379) ((if0 _ _).trans (tlt (own_cg hd nn2 hc1790 .g)).2.1) ?_
                  refine own_iconst X1731 hx 383 rfl (hb hby at_382) (1 : Int32) rfl ?_
                  refine own_goto X1731 hx 387 (hb hby at_383) (by decide) rfl ?_
                  refine own_istore X1731 hx 389 rfl (hb hby at_387) #[.val (.int i0), .val (.int i1), .val (.int i2), .val (.double (9218868437227405312 : UInt64)), .second, .val (.int (3 : Int32)), .val (.int (1 : Int32)), .val (.int (own_k i0)), .val (.int f8), .val (.int (own_a0 i1)), .val (.int (own_a1 i1)), .val (.int (own_a2 i1)), .val (.double d), .second, .val (.ref b365), .val (.ref b369), .val (.int (3 : Int32)), .val (.ref b1599), .val (.ref b1663), .val (.int (1 : Int32)), .unset, .unset] rfl ?_
                  refine own_iconst X1731 hx 390 rfl (hb hby at_389) (0 : Int32) rfl ?_
                  refine own_istore X1731 hx 392 rfl (hb hby at_390) #[.val (.int i0), .val (.int i1), .val (.int i2), .val (.double (9218868437227405312 : UInt64)), .second, .val (.int (3 : Int32)), .val (.int (1 : Int32)), .val (.int (own_k i0)), .val (.int f8), .val (.int (own_a0 i1)), .val (.int (own_a1 i1)), .val (.int (own_a2 i1)), .val (.double d), .second, .val (.ref b365), .val (.ref b369), .val (.int (3 : Int32)), .val (.ref b1599), .val (.ref b1663), .val (.int (1 : Int32)), .val (.int (0 : Int32)), .unset] rfl ?_
                  refine own_aload X1731 hx 394 rfl (hb hby at_392) rfl rfl ?_
                  refine own_iload X1731 hx 396 rfl (hb hby at_394) rfl ?_
                  refine own_ldD X1731 hx hZ e1731 f1736 ⟨by decide, by decide⟩ e0 rfl 397 rfl (hb hby at_396) ?_
                  refine own_dload X1731 hx 399 rfl (hb hby at_397) rfl ?_
                  refine own_dcmp X1731 hx 400 rfl (hb hby at_399) _ rfl ?_
                  refine own_ifNo X1731 hx 403 rfl (hb hby at_400) ((if0 _ _).trans (flt (own_cmp_le nn0 hd (Int.not_lt.mp hc1742) .g)).2.2.1) ?_
                  refine own_iinc X1731 hx 406 rfl (hb hby at_403) rfl #[.val (.int i0), .val (.int i1), .val (.int i2), .val (.double (9218868437227405312 : UInt64)), .second, .val (.int (3 : Int32)), .val (.int (1 : Int32)), .val (.int (own_k i0)), .val (.int f8), .val (.int (own_a0 i1)), .val (.int (own_a1 i1)), .val (.int (own_a2 i1)), .val (.double d), .second, .val (.ref b365), .val (.ref b369), .val (.int (3 : Int32)), .val (.ref b1599), .val (.ref b1663), .val (.int (1 : Int32)), .val (.int (1 : Int32)), .unset] rfl ?_
                  refine own_iload X1731 hx 408 rfl (hb hby at_406) rfl ?_
                  refine own_iconst X1731 hx 409 rfl (hb hby at_408) (2 : Int32) rfl ?_
                  refine own_icmpNo X1731 hx 412 rfl (hb hby at_409) (by decide) ?_
                  refine own_aload X1731 hx 414 rfl (hb hby at_412) rfl rfl ?_
                  refine own_iload X1731 hx 416 rfl (hb hby at_414) rfl ?_
                  refine own_iconst X1731 hx 417 rfl (hb hby at_416) (1 : Int32) rfl ?_
                  refine own_iadd X1731 hx 418 rfl (hb hby at_417) (4 : Int32) rfl ?_
                  refine own_ldD X1731 hx hZ e1731 f1736 ⟨by decide, by decide⟩ e1 rfl 419 rfl (hb hby at_418) ?_
                  refine own_dload X1731 hx 421 rfl (hb hby at_419) rfl ?_
                  refine own_dcmp X1731 hx 422 rfl (hb hby at_421) _ rfl ?_
                  refine own_ifNo X1731 hx 425 rfl (hb hby at_422) ((if0 _ _).trans (flt (own_cmp_le nn1 hd (Int.not_lt.mp hc1766) .g)).2.2.1) ?_
                  refine own_iinc X1731 hx 428 rfl (hb hby at_425) rfl #[.val (.int i0), .val (.int i1), .val (.int i2), .val (.double (9218868437227405312 : UInt64)), .second, .val (.int (3 : Int32)), .val (.int (1 : Int32)), .val (.int (own_k i0)), .val (.int f8), .val (.int (own_a0 i1)), .val (.int (own_a1 i1)), .val (.int (own_a2 i1)), .val (.double d), .second, .val (.ref b365), .val (.ref b369), .val (.int (3 : Int32)), .val (.ref b1599), .val (.ref b1663), .val (.int (1 : Int32)), .val (.int (2 : Int32)), .unset] rfl ?_
                  refine own_iload X1731 hx 430 rfl (hb hby at_428) rfl ?_
                  refine own_iconst X1731 hx 431 rfl (hb hby at_430) (3 : Int32) rfl ?_
                  refine own_icmpNo X1731 hx 434 rfl (hb hby at_431) (by decide) ?_
                  refine own_aload X1731 hx 436 rfl (hb hby at_434) rfl rfl ?_
                  refine own_iload X1731 hx 438 rfl (hb hby at_436) rfl ?_
                  refine own_iconst X1731 hx 439 rfl (hb hby at_438) (2 : Int32) rfl ?_
                  refine own_iadd X1731 hx 440 rfl (hb hby at_439) (5 : Int32) rfl ?_
                  refine own_ldD X1731 hx hZ e1731 f1736 ⟨by decide, by decide⟩ e2 rfl 441 rfl (hb hby at_440) ?_
                  refine own_dload X1731 hx 443 rfl (hb hby at_441) rfl ?_
                  refine own_dcmp X1731 hx 444 rfl (hb hby at_443) _ rfl ?_
                  refine own_ifYes X1731 hx 450 (hb hby at_444) ((if0 _ _).trans (tlt (own_cp nn2 hd hc1790 .g)).2.2.1) (by decide) rfl ?_
                  refine own_iloadN X1731 hx 451 rfl (hb hby at_450) rfl ?_
                  refine own_dload X1731 hx 453 rfl (hb hby at_451) rfl ?_
                  refine own_iload X1731 hx 455 rfl (hb hby at_453) rfl ?_
                  refine own_iload X1731 hx 457 rfl (hb hby at_455) rfl ?_
                  refine own_aload X1731 hx 459 rfl (hb hby at_457) rfl rfl ?_
                  refine own_aload X1731 hx 461 rfl (hb hby at_459) rfl rfl ?_
                  refine own_callS X1731 hx hZ (y := (⟨"com/example/outpost/outpost/model/Distances", "keepNearer", "(IDII[D[I)Z"⟩ : MethodName)) hown (own_hw hw 9 rfl) (own_hw hw 10 rfl) (by decide) (rm_keep_3_1_2 l Z a0 hw [] i2 d b1599 b1663 k1599 k1663 (4652007308841189376 : UInt64) (4652016104934211584 : UInt64) (4652024901027233792 : UInt64) e0 e1 e2 (10 : Int32) (11 : Int32) (12 : Int32) (13 : Int32) (14 : Int32) (15 : Int32) h1731 n0 z1740 f1738 f1732 ne1666 ge1602 ge1667 (own_cg hd nn2 hc1790 .g) (own_cmp_le nn1 hd (Int.not_lt.mp hc1766) .l)) (own_hw hw 12 rfl) (own_hw hw 11 rfl) (by decide) e1731 (by rw [hml]; rfl) [(.int i2), (.double d), (.int (1 : Int32)), (.int (3 : Int32)), (.ref b1599), (.ref b1663)] 0 (by decide) (Nat.le_of_eq rfl) (by decide) (by decide) (lenOf own_pd2 rfl) rfl rfl 464 rfl (hb hby at_461) fun v1791 T1791 Lc1791 X1791 hQ1791 => ?_
                  obtain ⟨rfl, Nq1791, Kq1791, fu1791, fw1791⟩ := hQ1791
                  have N1792 := Fr.app N1741 Nq1791
                  have f1793 := f1733.keep Kq1791
                  have f1794 := f1734.keep Kq1791
                  have f1795 := f1735.keep Kq1791 (ninS ne1601 (ninS ne1665 nin0))
                  have f1796 := f1736.keep Kq1791 (ninS ne1600 (ninS ne1664 nin0))
                  have f1797 := f1737.keep Kq1791
                  have f1799 := f1739.keep Kq1791
                  have z1801 := Nat.le_trans z1740 Kq1791.1
                  show own_Go _ _ _ _ _ (State.setTop _ (mkF _ 464 _ [(.int (1 : Int32))]))
                  refine own_istore X1791 hx 466 rfl (hb hby at_464) #[.val (.int i0), .val (.int i1), .val (.int i2), .val (.double (9218868437227405312 : UInt64)), .second, .val (.int (3 : Int32)), .val (.int (1 : Int32)), .val (.int (own_k i0)), .val (.int f8), .val (.int (own_a0 i1)), .val (.int (own_a1 i1)), .val (.int (own_a2 i1)), .val (.double d), .second, .val (.ref b365), .val (.ref b369), .val (.int (3 : Int32)), .val (.ref b1599), .val (.ref b1663), .val (.int (1 : Int32)), .val (.int (2 : Int32)), .val (.int (1 : Int32))] rfl ?_
                  refine own_iload X1791 hx 468 rfl (hb hby at_466) rfl ?_
                  refine own_iload X1791 hx 470 rfl (hb hby at_468) rfl ?_
                  refine own_icmpNo X1791 hx 473 rfl (hb hby at_470) (by decide) ?_
                  refine own_iconst X1791 hx 474 rfl (hb hby at_473) (0 : Int32) rfl ?_
                  refine own_iload X1791 hx 476 rfl (hb hby at_474) rfl ?_
                  refine own_iload X1791 hx 478 rfl (hb hby at_476) rfl ?_
                  refine own_iload X1791 hx 480 rfl (hb hby at_478) rfl ?_
                  refine own_iload X1791 hx 482 rfl (hb hby at_480) rfl ?_
                  refine own_dload X1791 hx 484 rfl (hb hby at_482) rfl ?_
                  refine own_iloadN X1791 hx 485 rfl (hb hby at_484) rfl ?_
                  refine own_aload X1791 hx 487 rfl (hb hby at_485) rfl rfl ?_
                  refine own_aload X1791 hx 489 rfl (hb hby at_487) rfl rfl ?_
                  refine own_aload X1791 hx 491 rfl (hb hby at_489) rfl rfl ?_
                  refine own_aload X1791 hx 493 rfl (hb hby at_491) rfl rfl ?_
                  refine own_callS X1791 hx hZ (y := (⟨"com/example/outpost/outpost/model/DistancesKeepNearerPinLaw", "same", "(IIIIZDI[D[I[D[I)Z"⟩ : MethodName)) hown (own_hw hw 13 rfl) (own_hw hw 14 rfl) (by decide) (rm_same_A2 l Z a0 hw [] (0 : Int32) (3 : Int32) (3 : Int32) (2 : Int32) d i2 b365 b369 b1599 b1663 k365 k369 k1599 k1663 [(.double (4652007308841189376 : UInt64)), (.double (4652016104934211584 : UInt64)), (.double (4652024901027233792 : UInt64)), (.double e0), (.double e1), (.double e2)] [(.int (10 : Int32)), (.int (11 : Int32)), (.int (12 : Int32)), (.int (13 : Int32)), (.int (14 : Int32)), (.int (15 : Int32))] [(.double (4652007308841189376 : UInt64)), (.double (4652016104934211584 : UInt64)), (.double (4652024901027233792 : UInt64)), (.double e0), (.double e1), (.double d)] [(.int (10 : Int32)), (.int (11 : Int32)), (.int (12 : Int32)), (.int (13 : Int32)), (.int (14 : Int32)), (.int i2)] (4652007308841189376 : UInt64) (10 : Int32) T1791.heap n0 z1801 f1796 f1795 fu1791 fw1791 (by decide) (by decide) rfl rfl (by decide) rfl rfl (own_self own_cst.1)) (own_hw hw 16 rfl) (own_hw hw 15 rfl) (by decide) rfl (by rw [hml]; rfl) [(.int (0 : Int32)), (.int (3 : Int32)), (.int (3 : Int32)), (.int (2 : Int32)), (.int (1 : Int32)), (.double d), (.int i2), (.ref b365), (.ref b369), (.ref b1599), (.ref b1663)] 0 (by decide) (Nat.le_of_eq rfl) (by decide) (by decide) (lenOf own_pd3 rfl) rfl rfl 496 rfl (hb hby at_493) fun v1802 T1802 Lc1802 X1802 hQ1802 => ?_
                  obtain ⟨rfl, Nq1802, e1802⟩ := hQ1802
                  have N1803 := Fr.app N1792 Nq1802
                  show own_Go _ _ _ _ _ (State.setTop _ (mkF _ 496 _ [(.int (1 : Int32))]))
                  refine own_ifNo X1802 hx 499 rfl (hb hby at_496) (by decide) ?_
                  refine own_iconst X1802 hx 500 rfl (hb hby at_499) (1 : Int32) rfl ?_
                  refine own_iload X1802 hx 502 rfl (hb hby at_500) rfl ?_
                  refine own_iload X1802 hx 504 rfl (hb hby at_502) rfl ?_
                  refine own_iload X1802 hx 506 rfl (hb hby at_504) rfl ?_
                  refine own_iload X1802 hx 508 rfl (hb hby at_506) rfl ?_
                  refine own_dload X1802 hx 510 rfl (hb hby at_508) rfl ?_
                  refine own_iloadN X1802 hx 511 rfl (hb hby at_510) rfl ?_
                  refine own_aload X1802 hx 513 rfl (hb hby at_511) rfl rfl ?_
                  refine own_aload X1802 hx 515 rfl (hb hby at_513) rfl rfl ?_
                  refine own_aload X1802 hx 517 rfl (hb hby at_515) rfl rfl ?_
                  refine own_aload X1802 hx 519 rfl (hb hby at_517) rfl rfl ?_
                  refine own_callS X1802 hx hZ (y := (⟨"com/example/outpost/outpost/model/DistancesKeepNearerPinLaw", "same", "(IIIIZDI[D[I[D[I)Z"⟩ : MethodName)) hown (own_hw hw 13 rfl) (own_hw hw 14 rfl) (by decide) (rm_same_A2 l Z a0 hw [] (1 : Int32) (3 : Int32) (3 : Int32) (2 : Int32) d i2 b365 b369 b1599 b1663 k365 k369 k1599 k1663 [(.double (4652007308841189376 : UInt64)), (.double (4652016104934211584 : UInt64)), (.double (4652024901027233792 : UInt64)), (.double e0), (.double e1), (.double e2)] [(.int (10 : Int32)), (.int (11 : Int32)), (.int (12 : Int32)), (.int (13 : Int32)), (.int (14 : Int32)), (.int (15 : Int32))] [(.double (4652007308841189376 : UInt64)), (.double (4652016104934211584 : UInt64)), (.double (4652024901027233792 : UInt64)), (.double e0), (.double e1), (.double d)] [(.int (10 : Int32)), (.int (11 : Int32)), (.int (12 : Int32)), (.int (13 : Int32)), (.int (14 : Int32)), (.int i2)] (4652016104934211584 : UInt64) (11 : Int32) T1791.heap n0 z1801 f1796 f1795 fu1791 fw1791 (by decide) (by decide) rfl rfl (by decide) rfl rfl (own_self own_cst.2.1)) (own_hw hw 16 rfl) (own_hw hw 15 rfl) (by decide) e1802 (by rw [hml]; rfl) [(.int (1 : Int32)), (.int (3 : Int32)), (.int (3 : Int32)), (.int (2 : Int32)), (.int (1 : Int32)), (.double d), (.int i2), (.ref b365), (.ref b369), (.ref b1599), (.ref b1663)] 0 (by decide) (Nat.le_of_eq rfl) (by decide) (by decide) (lenOf own_pd3 rfl) rfl rfl 522 rfl (hb hby at_519) fun v1804 T1804 Lc1804 X1804 hQ1804 => ?_
                  obtain ⟨rfl, Nq1804, e1804⟩ := hQ1804
                  have N1805 := Fr.app N1803 Nq1804
                  show own_Go _ _ _ _ _ (State.setTop _ (mkF _ 522 _ [(.int (1 : Int32))]))
                  refine own_ifNo X1804 hx 525 rfl (hb hby at_522) (by decide) ?_
                  refine own_iconst X1804 hx 526 rfl (hb hby at_525) (2 : Int32) rfl ?_
                  refine own_iload X1804 hx 528 rfl (hb hby at_526) rfl ?_
                  refine own_iload X1804 hx 530 rfl (hb hby at_528) rfl ?_
                  refine own_iload X1804 hx 532 rfl (hb hby at_530) rfl ?_
                  refine own_iload X1804 hx 534 rfl (hb hby at_532) rfl ?_
                  refine own_dload X1804 hx 536 rfl (hb hby at_534) rfl ?_
                  refine own_iloadN X1804 hx 537 rfl (hb hby at_536) rfl ?_
                  refine own_aload X1804 hx 539 rfl (hb hby at_537) rfl rfl ?_
                  refine own_aload X1804 hx 541 rfl (hb hby at_539) rfl rfl ?_
                  refine own_aload X1804 hx 543 rfl (hb hby at_541) rfl rfl ?_
                  refine own_aload X1804 hx 545 rfl (hb hby at_543) rfl rfl ?_
                  refine own_callS X1804 hx hZ (y := (⟨"com/example/outpost/outpost/model/DistancesKeepNearerPinLaw", "same", "(IIIIZDI[D[I[D[I)Z"⟩ : MethodName)) hown (own_hw hw 13 rfl) (own_hw hw 14 rfl) (by decide) (rm_same_A2 l Z a0 hw [] (2 : Int32) (3 : Int32) (3 : Int32) (2 : Int32) d i2 b365 b369 b1599 b1663 k365 k369 k1599 k1663 [(.double (4652007308841189376 : UInt64)), (.double (4652016104934211584 : UInt64)), (.double (4652024901027233792 : UInt64)), (.double e0), (.double e1), (.double e2)] [(.int (10 : Int32)), (.int (11 : Int32)), (.int (12 : Int32)), (.int (13 : Int32)), (.int (14 : Int32)), (.int (15 : Int32))] [(.double (4652007308841189376 : UInt64)), (.double (4652016104934211584 : UInt64)), (.double (4652024901027233792 : UInt64)), (.double e0), (.double e1), (.double d)] [(.int (10 : Int32)), (.int (11 : Int32)), (.int (12 : Int32)), (.int (13 : Int32)), (.int (14 : Int32)), (.int i2)] (4652024901027233792 : UInt64) (12 : Int32) T1791.heap n0 z1801 f1796 f1795 fu1791 fw1791 (by decide) (by decide) rfl rfl (by decide) rfl rfl (own_self own_cst.2.2.1)) (own_hw hw 16 rfl) (own_hw hw 15 rfl) (by decide) e1804 (by rw [hml]; rfl) [(.int (2 : Int32)), (.int (3 : Int32)), (.int (3 : Int32)), (.int (2 : Int32)), (.int (1 : Int32)), (.double d), (.int i2), (.ref b365), (.ref b369), (.ref b1599), (.ref b1663)] 0 (by decide) (Nat.le_of_eq rfl) (by decide) (by decide) (lenOf own_pd3 rfl) rfl rfl 548 rfl (hb hby at_545) fun v1806 T1806 Lc1806 X1806 hQ1806 => ?_
                  obtain ⟨rfl, Nq1806, e1806⟩ := hQ1806
                  have N1807 := Fr.app N1805 Nq1806
                  show own_Go _ _ _ _ _ (State.setTop _ (mkF _ 548 _ [(.int (1 : Int32))]))
                  refine own_ifNo X1806 hx 551 rfl (hb hby at_548) (by decide) ?_
                  refine own_iconst X1806 hx 552 rfl (hb hby at_551) (3 : Int32) rfl ?_
                  refine own_iload X1806 hx 554 rfl (hb hby at_552) rfl ?_
                  refine own_iload X1806 hx 556 rfl (hb hby at_554) rfl ?_
                  refine own_iload X1806 hx 558 rfl (hb hby at_556) rfl ?_
                  refine own_iload X1806 hx 560 rfl (hb hby at_558) rfl ?_
                  refine own_dload X1806 hx 562 rfl (hb hby at_560) rfl ?_
                  refine own_iloadN X1806 hx 563 rfl (hb hby at_562) rfl ?_
                  refine own_aload X1806 hx 565 rfl (hb hby at_563) rfl rfl ?_
                  refine own_aload X1806 hx 567 rfl (hb hby at_565) rfl rfl ?_
                  refine own_aload X1806 hx 569 rfl (hb hby at_567) rfl rfl ?_
                  refine own_aload X1806 hx 571 rfl (hb hby at_569) rfl rfl ?_
                  refine own_callS X1806 hx hZ (y := (⟨"com/example/outpost/outpost/model/DistancesKeepNearerPinLaw", "same", "(IIIIZDI[D[I[D[I)Z"⟩ : MethodName)) hown (own_hw hw 13 rfl) (own_hw hw 14 rfl) (by decide) (rm_same_B l Z a0 hw [] (3 : Int32) (3 : Int32) (3 : Int32) (2 : Int32) d i2 b365 b369 b1599 b1663 k365 k369 k1599 k1663 [(.double (4652007308841189376 : UInt64)), (.double (4652016104934211584 : UInt64)), (.double (4652024901027233792 : UInt64)), (.double e0), (.double e1), (.double e2)] [(.int (10 : Int32)), (.int (11 : Int32)), (.int (12 : Int32)), (.int (13 : Int32)), (.int (14 : Int32)), (.int (15 : Int32))] [(.double (4652007308841189376 : UInt64)), (.double (4652016104934211584 : UInt64)), (.double (4652024901027233792 : UInt64)), (.double e0), (.double e1), (.double d)] [(.int (10 : Int32)), (.int (11 : Int32)), (.int (12 : Int32)), (.int (13 : Int32)), (.int (14 : Int32)), (.int i2)] e0 (13 : Int32) T1791.heap n0 z1801 f1796 f1795 fu1791 fw1791 (by decide) (by decide) (by decide) (by decide) rfl rfl (by decide) rfl rfl (own_self nn0)) (own_hw hw 16 rfl) (own_hw hw 15 rfl) (by decide) e1806 (by rw [hml]; rfl) [(.int (3 : Int32)), (.int (3 : Int32)), (.int (3 : Int32)), (.int (2 : Int32)), (.int (1 : Int32)), (.double d), (.int i2), (.ref b365), (.ref b369), (.ref b1599), (.ref b1663)] 0 (by decide) (Nat.le_of_eq rfl) (by decide) (by decide) (lenOf own_pd3 rfl) rfl rfl 574 rfl (hb hby at_571) fun v1808 T1808 Lc1808 X1808 hQ1808 => ?_
                  obtain ⟨rfl, Nq1808, e1808⟩ := hQ1808
                  have N1809 := Fr.app N1807 Nq1808
                  show own_Go _ _ _ _ _ (State.setTop _ (mkF _ 574 _ [(.int (1 : Int32))]))
                  refine own_ifNo X1808 hx 577 rfl (hb hby at_574) (by decide) ?_
                  refine own_iconst X1808 hx 578 rfl (hb hby at_577) (4 : Int32) rfl ?_
                  refine own_iload X1808 hx 580 rfl (hb hby at_578) rfl ?_
                  refine own_iload X1808 hx 582 rfl (hb hby at_580) rfl ?_
                  refine own_iload X1808 hx 584 rfl (hb hby at_582) rfl ?_
                  refine own_iload X1808 hx 586 rfl (hb hby at_584) rfl ?_
                  refine own_dload X1808 hx 588 rfl (hb hby at_586) rfl ?_
                  refine own_iloadN X1808 hx 589 rfl (hb hby at_588) rfl ?_
                  refine own_aload X1808 hx 591 rfl (hb hby at_589) rfl rfl ?_
                  refine own_aload X1808 hx 593 rfl (hb hby at_591) rfl rfl ?_
                  refine own_aload X1808 hx 595 rfl (hb hby at_593) rfl rfl ?_
                  refine own_aload X1808 hx 597 rfl (hb hby at_595) rfl rfl ?_
                  refine own_callS X1808 hx hZ (y := (⟨"com/example/outpost/outpost/model/DistancesKeepNearerPinLaw", "same", "(IIIIZDI[D[I[D[I)Z"⟩ : MethodName)) hown (own_hw hw 13 rfl) (own_hw hw 14 rfl) (by decide) (rm_same_B l Z a0 hw [] (4 : Int32) (3 : Int32) (3 : Int32) (2 : Int32) d i2 b365 b369 b1599 b1663 k365 k369 k1599 k1663 [(.double (4652007308841189376 : UInt64)), (.double (4652016104934211584 : UInt64)), (.double (4652024901027233792 : UInt64)), (.double e0), (.double e1), (.double e2)] [(.int (10 : Int32)), (.int (11 : Int32)), (.int (12 : Int32)), (.int (13 : Int32)), (.int (14 : Int32)), (.int (15 : Int32))] [(.double (4652007308841189376 : UInt64)), (.double (4652016104934211584 : UInt64)), (.double (4652024901027233792 : UInt64)), (.double e0), (.double e1), (.double d)] [(.int (10 : Int32)), (.int (11 : Int32)), (.int (12 : Int32)), (.int (13 : Int32)), (.int (14 : Int32)), (.int i2)] e1 (14 : Int32) T1791.heap n0 z1801 f1796 f1795 fu1791 fw1791 (by decide) (by decide) (by decide) (by decide) rfl rfl (by decide) rfl rfl (own_self nn1)) (own_hw hw 16 rfl) (own_hw hw 15 rfl) (by decide) e1808 (by rw [hml]; rfl) [(.int (4 : Int32)), (.int (3 : Int32)), (.int (3 : Int32)), (.int (2 : Int32)), (.int (1 : Int32)), (.double d), (.int i2), (.ref b365), (.ref b369), (.ref b1599), (.ref b1663)] 0 (by decide) (Nat.le_of_eq rfl) (by decide) (by decide) (lenOf own_pd3 rfl) rfl rfl 600 rfl (hb hby at_597) fun v1810 T1810 Lc1810 X1810 hQ1810 => ?_
                  obtain ⟨rfl, Nq1810, e1810⟩ := hQ1810
                  have N1811 := Fr.app N1809 Nq1810
                  show own_Go _ _ _ _ _ (State.setTop _ (mkF _ 600 _ [(.int (1 : Int32))]))
                  refine own_ifNo X1810 hx 603 rfl (hb hby at_600) (by decide) ?_
                  refine own_iconst X1810 hx 604 rfl (hb hby at_603) (5 : Int32) rfl ?_
                  refine own_iload X1810 hx 606 rfl (hb hby at_604) rfl ?_
                  refine own_iload X1810 hx 608 rfl (hb hby at_606) rfl ?_
                  refine own_iload X1810 hx 610 rfl (hb hby at_608) rfl ?_
                  refine own_iload X1810 hx 612 rfl (hb hby at_610) rfl ?_
                  refine own_dload X1810 hx 614 rfl (hb hby at_612) rfl ?_
                  refine own_iloadN X1810 hx 615 rfl (hb hby at_614) rfl ?_
                  refine own_aload X1810 hx 617 rfl (hb hby at_615) rfl rfl ?_
                  refine own_aload X1810 hx 619 rfl (hb hby at_617) rfl rfl ?_
                  refine own_aload X1810 hx 621 rfl (hb hby at_619) rfl rfl ?_
                  refine own_aload X1810 hx 623 rfl (hb hby at_621) rfl rfl ?_
                  refine own_callS X1810 hx hZ (y := (⟨"com/example/outpost/outpost/model/DistancesKeepNearerPinLaw", "same", "(IIIIZDI[D[I[D[I)Z"⟩ : MethodName)) hown (own_hw hw 13 rfl) (own_hw hw 14 rfl) (by decide) (rm_same_C l Z a0 hw [] (5 : Int32) (3 : Int32) (3 : Int32) (2 : Int32) d i2 b365 b369 b1599 b1663 k365 k369 k1599 k1663 [(.double (4652007308841189376 : UInt64)), (.double (4652016104934211584 : UInt64)), (.double (4652024901027233792 : UInt64)), (.double e0), (.double e1), (.double e2)] [(.int (10 : Int32)), (.int (11 : Int32)), (.int (12 : Int32)), (.int (13 : Int32)), (.int (14 : Int32)), (.int (15 : Int32))] [(.double (4652007308841189376 : UInt64)), (.double (4652016104934211584 : UInt64)), (.double (4652024901027233792 : UInt64)), (.double e0), (.double e1), (.double d)] [(.int (10 : Int32)), (.int (11 : Int32)), (.int (12 : Int32)), (.int (13 : Int32)), (.int (14 : Int32)), (.int i2)] d i2 T1791.heap n0 z1801 f1796 f1795 fu1791 fw1791 (by decide) (by decide) (by decide) (by decide) rfl rfl (by decide) rfl rfl (own_self hd)) (own_hw hw 16 rfl) (own_hw hw 15 rfl) (by decide) e1810 (by rw [hml]; rfl) [(.int (5 : Int32)), (.int (3 : Int32)), (.int (3 : Int32)), (.int (2 : Int32)), (.int (1 : Int32)), (.double d), (.int i2), (.ref b365), (.ref b369), (.ref b1599), (.ref b1663)] 0 (by decide) (Nat.le_of_eq rfl) (by decide) (by decide) (lenOf own_pd3 rfl) rfl rfl 626 rfl (hb hby at_623) fun v1812 T1812 Lc1812 X1812 hQ1812 => ?_
                  obtain ⟨rfl, Nq1812, e1812⟩ := hQ1812
                  have N1813 := Fr.app N1811 Nq1812
                  show own_Go _ _ _ _ _ (State.setTop _ (mkF _ 626 _ [(.int (1 : Int32))]))
                  refine own_ifNo X1812 hx 629 rfl (hb hby at_626) (by decide) ?_
                  refine own_iconst X1812 hx 630 rfl (hb hby at_629) (1 : Int32) rfl ?_
                  refine own_goto X1812 hx 634 (hb hby at_630) (by decide) rfl ?_
                  refine own_ret X1812 (some (.int (1 : Int32))) (fun h => by rw [Bd.returns] at h; cases h) Bd.notSynchronized (by decide) (by decide) ?_ (fun fs hr => retN X1812 hx (t := .boolean) Bd.returns (by simp) (hb hby at_634) hr)
                  show Q_rm0 Z i0 i1 i2 h0 n0 _ T1812.heap _
                  rw [e1812]
                  exact ⟨rfl, N1813⟩
                ·
                  refine own_dcmp X1731 hx 379 rfl (hb hby at_378) _ rfl ?_
                  refine own_ifYes X1731 hx 386 (hb hby at_379) ((if0 _ _).trans (flt (own_cmp_ge hd nn2 (Int.not_lt.mp hc1790) .g)).2.1) (by decide) rfl ?_
                  refine own_iconst X1731 hx 387 rfl (hb hby at_386) (0 : Int32) rfl ?_
                  refine own_istore X1731 hx 389 rfl (hb hby at_387) #[.val (.int i0), .val (.int i1), .val (.int i2), .val (.double (9218868437227405312 : UInt64)), .second, .val (.int (3 : Int32)), .val (.int (1 : Int32)), .val (.int (own_k i0)), .val (.int f8), .val (.int (own_a0 i1)), .val (.int (own_a1 i1)), .val (.int (own_a2 i1)), .val (.double d), .second, .val (.ref b365), .val (.ref b369), .val (.int (3 : Int32)), .val (.ref b1599), .val (.ref b1663), .val (.int (0 : Int32)), .unset, .unset] rfl ?_
                  refine own_iconst X1731 hx 390 rfl (hb hby at_389) (0 : Int32) rfl ?_
                  refine own_istore X1731 hx 392 rfl (hb hby at_390) #[.val (.int i0), .val (.int i1), .val (.int i2), .val (.double (9218868437227405312 : UInt64)), .second, .val (.int (3 : Int32)), .val (.int (1 : Int32)), .val (.int (own_k i0)), .val (.int f8), .val (.int (own_a0 i1)), .val (.int (own_a1 i1)), .val (.int (own_a2 i1)), .val (.double d), .second, .val (.ref b365), .val (.ref b369), .val (.int (3 : Int32)), .val (.ref b1599), .val (.ref b1663), .val (.int (0 : Int32)), .val (.int (0 : Int32)), .unset] rfl ?_
                  refine own_aload X1731 hx 394 rfl (hb hby at_392) rfl rfl ?_
                  refine own_iload X1731 hx 396 rfl (hb hby at_394) rfl ?_
                  refine own_ldD X1731 hx hZ e1731 f1736 ⟨by decide, by decide⟩ e0 rfl 397 rfl (hb hby at_396) ?_
                  refine own_dload X1731 hx 399 rfl (hb hby at_397) rfl ?_
                  refine own_dcmp X1731 hx 400 rfl (hb hby at_399) _ rfl ?_
                  refine own_ifNo X1731 hx 403 rfl (hb hby at_400) ((if0 _ _).trans (flt (own_cmp_le nn0 hd (Int.not_lt.mp hc1742) .g)).2.2.1) ?_
                  refine own_iinc X1731 hx 406 rfl (hb hby at_403) rfl #[.val (.int i0), .val (.int i1), .val (.int i2), .val (.double (9218868437227405312 : UInt64)), .second, .val (.int (3 : Int32)), .val (.int (1 : Int32)), .val (.int (own_k i0)), .val (.int f8), .val (.int (own_a0 i1)), .val (.int (own_a1 i1)), .val (.int (own_a2 i1)), .val (.double d), .second, .val (.ref b365), .val (.ref b369), .val (.int (3 : Int32)), .val (.ref b1599), .val (.ref b1663), .val (.int (0 : Int32)), .val (.int (1 : Int32)), .unset] rfl ?_
                  refine own_iload X1731 hx 408 rfl (hb hby at_406) rfl ?_
                  refine own_iconst X1731 hx 409 rfl (hb hby at_408) (2 : Int32) rfl ?_
                  refine own_icmpNo X1731 hx 412 rfl (hb hby at_409) (by decide) ?_
                  refine own_aload X1731 hx 414 rfl (hb hby at_412) rfl rfl ?_
                  refine own_iload X1731 hx 416 rfl (hb hby at_414) rfl ?_
                  refine own_iconst X1731 hx 417 rfl (hb hby at_416) (1 : Int32) rfl ?_
                  refine own_iadd X1731 hx 418 rfl (hb hby at_417) (4 : Int32) rfl ?_
                  refine own_ldD X1731 hx hZ e1731 f1736 ⟨by decide, by decide⟩ e1 rfl 419 rfl (hb hby at_418) ?_
                  refine own_dload X1731 hx 421 rfl (hb hby at_419) rfl ?_
                  refine own_dcmp X1731 hx 422 rfl (hb hby at_421) _ rfl ?_
                  refine own_ifNo X1731 hx 425 rfl (hb hby at_422) ((if0 _ _).trans (flt (own_cmp_le nn1 hd (Int.not_lt.mp hc1766) .g)).2.2.1) ?_
                  refine own_iinc X1731 hx 428 rfl (hb hby at_425) rfl #[.val (.int i0), .val (.int i1), .val (.int i2), .val (.double (9218868437227405312 : UInt64)), .second, .val (.int (3 : Int32)), .val (.int (1 : Int32)), .val (.int (own_k i0)), .val (.int f8), .val (.int (own_a0 i1)), .val (.int (own_a1 i1)), .val (.int (own_a2 i1)), .val (.double d), .second, .val (.ref b365), .val (.ref b369), .val (.int (3 : Int32)), .val (.ref b1599), .val (.ref b1663), .val (.int (0 : Int32)), .val (.int (2 : Int32)), .unset] rfl ?_
                  refine own_iload X1731 hx 430 rfl (hb hby at_428) rfl ?_
                  refine own_iconst X1731 hx 431 rfl (hb hby at_430) (3 : Int32) rfl ?_
                  refine own_icmpNo X1731 hx 434 rfl (hb hby at_431) (by decide) ?_
                  refine own_aload X1731 hx 436 rfl (hb hby at_434) rfl rfl ?_
                  refine own_iload X1731 hx 438 rfl (hb hby at_436) rfl ?_
                  refine own_iconst X1731 hx 439 rfl (hb hby at_438) (2 : Int32) rfl ?_
                  refine own_iadd X1731 hx 440 rfl (hb hby at_439) (5 : Int32) rfl ?_
                  refine own_ldD X1731 hx hZ e1731 f1736 ⟨by decide, by decide⟩ e2 rfl 441 rfl (hb hby at_440) ?_
                  refine own_dload X1731 hx 443 rfl (hb hby at_441) rfl ?_
                  refine own_dcmp X1731 hx 444 rfl (hb hby at_443) _ rfl ?_
                  refine own_ifNo X1731 hx 447 rfl (hb hby at_444) ((if0 _ _).trans (flt (own_cmp_le nn2 hd (Int.not_lt.mp hc1790) .g)).2.2.1) ?_
                  refine own_iinc X1731 hx 450 rfl (hb hby at_447) rfl #[.val (.int i0), .val (.int i1), .val (.int i2), .val (.double (9218868437227405312 : UInt64)), .second, .val (.int (3 : Int32)), .val (.int (1 : Int32)), .val (.int (own_k i0)), .val (.int f8), .val (.int (own_a0 i1)), .val (.int (own_a1 i1)), .val (.int (own_a2 i1)), .val (.double d), .second, .val (.ref b365), .val (.ref b369), .val (.int (3 : Int32)), .val (.ref b1599), .val (.ref b1663), .val (.int (0 : Int32)), .val (.int (3 : Int32)), .unset] rfl ?_
                  refine own_iloadN X1731 hx 451 rfl (hb hby at_450) rfl ?_
                  refine own_dload X1731 hx 453 rfl (hb hby at_451) rfl ?_
                  refine own_iload X1731 hx 455 rfl (hb hby at_453) rfl ?_
                  refine own_iload X1731 hx 457 rfl (hb hby at_455) rfl ?_
                  refine own_aload X1731 hx 459 rfl (hb hby at_457) rfl rfl ?_
                  refine own_aload X1731 hx 461 rfl (hb hby at_459) rfl rfl ?_
                  refine own_callS X1731 hx hZ (y := (⟨"com/example/outpost/outpost/model/Distances", "keepNearer", "(IDII[D[I)Z"⟩ : MethodName)) hown (own_hw hw 9 rfl) (own_hw hw 10 rfl) (by decide) (rm_keep_3_1_n l Z a0 hw [] i2 d b1599 b1663 k1599 k1663 (4652007308841189376 : UInt64) (4652016104934211584 : UInt64) (4652024901027233792 : UInt64) e0 e1 e2 (10 : Int32) (11 : Int32) (12 : Int32) (13 : Int32) (14 : Int32) (15 : Int32) h1731 n0 z1740 f1738 f1732 ne1666 ge1602 ge1667 (own_cmp_ge hd nn2 (Int.not_lt.mp hc1790) .g)) (own_hw hw 12 rfl) (own_hw hw 11 rfl) (by decide) e1731 (by rw [hml]; rfl) [(.int i2), (.double d), (.int (1 : Int32)), (.int (3 : Int32)), (.ref b1599), (.ref b1663)] 0 (by decide) (Nat.le_of_eq rfl) (by decide) (by decide) (lenOf own_pd2 rfl) rfl rfl 464 rfl (hb hby at_461) fun v1814 T1814 Lc1814 X1814 hQ1814 => ?_
                  obtain ⟨rfl, Nq1814, Kq1814, fu1814, fw1814⟩ := hQ1814
                  have N1815 := Fr.app N1741 Nq1814
                  have f1816 := f1733.keep Kq1814
                  have f1817 := f1734.keep Kq1814
                  have f1818 := f1735.keep Kq1814 (ninS ne1601 (ninS ne1665 nin0))
                  have f1819 := f1736.keep Kq1814 (ninS ne1600 (ninS ne1664 nin0))
                  have f1820 := f1737.keep Kq1814
                  have f1822 := f1739.keep Kq1814
                  have z1824 := Nat.le_trans z1740 Kq1814.1
                  show own_Go _ _ _ _ _ (State.setTop _ (mkF _ 464 _ [(.int (0 : Int32))]))
                  refine own_istore X1814 hx 466 rfl (hb hby at_464) #[.val (.int i0), .val (.int i1), .val (.int i2), .val (.double (9218868437227405312 : UInt64)), .second, .val (.int (3 : Int32)), .val (.int (1 : Int32)), .val (.int (own_k i0)), .val (.int f8), .val (.int (own_a0 i1)), .val (.int (own_a1 i1)), .val (.int (own_a2 i1)), .val (.double d), .second, .val (.ref b365), .val (.ref b369), .val (.int (3 : Int32)), .val (.ref b1599), .val (.ref b1663), .val (.int (0 : Int32)), .val (.int (3 : Int32)), .val (.int (0 : Int32))] rfl ?_
                  refine own_iload X1814 hx 468 rfl (hb hby at_466) rfl ?_
                  refine own_iload X1814 hx 470 rfl (hb hby at_468) rfl ?_
                  refine own_icmpNo X1814 hx 473 rfl (hb hby at_470) (by decide) ?_
                  refine own_iconst X1814 hx 474 rfl (hb hby at_473) (0 : Int32) rfl ?_
                  refine own_iload X1814 hx 476 rfl (hb hby at_474) rfl ?_
                  refine own_iload X1814 hx 478 rfl (hb hby at_476) rfl ?_
                  refine own_iload X1814 hx 480 rfl (hb hby at_478) rfl ?_
                  refine own_iload X1814 hx 482 rfl (hb hby at_480) rfl ?_
                  refine own_dload X1814 hx 484 rfl (hb hby at_482) rfl ?_
                  refine own_iloadN X1814 hx 485 rfl (hb hby at_484) rfl ?_
                  refine own_aload X1814 hx 487 rfl (hb hby at_485) rfl rfl ?_
                  refine own_aload X1814 hx 489 rfl (hb hby at_487) rfl rfl ?_
                  refine own_aload X1814 hx 491 rfl (hb hby at_489) rfl rfl ?_
                  refine own_aload X1814 hx 493 rfl (hb hby at_491) rfl rfl ?_
                  refine own_callS X1814 hx hZ (y := (⟨"com/example/outpost/outpost/model/DistancesKeepNearerPinLaw", "same", "(IIIIZDI[D[I[D[I)Z"⟩ : MethodName)) hown (own_hw hw 13 rfl) (own_hw hw 14 rfl) (by decide) (rm_same_A1 l Z a0 hw [] (0 : Int32) (3 : Int32) (3 : Int32) (3 : Int32) d i2 b365 b369 b1599 b1663 k365 k369 k1599 k1663 [(.double (4652007308841189376 : UInt64)), (.double (4652016104934211584 : UInt64)), (.double (4652024901027233792 : UInt64)), (.double e0), (.double e1), (.double e2)] [(.int (10 : Int32)), (.int (11 : Int32)), (.int (12 : Int32)), (.int (13 : Int32)), (.int (14 : Int32)), (.int (15 : Int32))] [(.double (4652007308841189376 : UInt64)), (.double (4652016104934211584 : UInt64)), (.double (4652024901027233792 : UInt64)), (.double e0), (.double e1), (.double e2)] [(.int (10 : Int32)), (.int (11 : Int32)), (.int (12 : Int32)), (.int (13 : Int32)), (.int (14 : Int32)), (.int (15 : Int32))] (4652007308841189376 : UInt64) (10 : Int32) T1814.heap n0 z1824 f1819 f1818 fu1814 fw1814 (by decide) rfl rfl (by decide) rfl rfl (own_self own_cst.1)) (own_hw hw 16 rfl) (own_hw hw 15 rfl) (by decide) rfl (by rw [hml]; rfl) [(.int (0 : Int32)), (.int (3 : Int32)), (.int (3 : Int32)), (.int (3 : Int32)), (.int (0 : Int32)), (.double d), (.int i2), (.ref b365), (.ref b369), (.ref b1599), (.ref b1663)] 0 (by decide) (Nat.le_of_eq rfl) (by decide) (by decide) (lenOf own_pd3 rfl) rfl rfl 496 rfl (hb hby at_493) fun v1825 T1825 Lc1825 X1825 hQ1825 => ?_
                  obtain ⟨rfl, Nq1825, e1825⟩ := hQ1825
                  have N1826 := Fr.app N1815 Nq1825
                  show own_Go _ _ _ _ _ (State.setTop _ (mkF _ 496 _ [(.int (1 : Int32))]))
                  refine own_ifNo X1825 hx 499 rfl (hb hby at_496) (by decide) ?_
                  refine own_iconst X1825 hx 500 rfl (hb hby at_499) (1 : Int32) rfl ?_
                  refine own_iload X1825 hx 502 rfl (hb hby at_500) rfl ?_
                  refine own_iload X1825 hx 504 rfl (hb hby at_502) rfl ?_
                  refine own_iload X1825 hx 506 rfl (hb hby at_504) rfl ?_
                  refine own_iload X1825 hx 508 rfl (hb hby at_506) rfl ?_
                  refine own_dload X1825 hx 510 rfl (hb hby at_508) rfl ?_
                  refine own_iloadN X1825 hx 511 rfl (hb hby at_510) rfl ?_
                  refine own_aload X1825 hx 513 rfl (hb hby at_511) rfl rfl ?_
                  refine own_aload X1825 hx 515 rfl (hb hby at_513) rfl rfl ?_
                  refine own_aload X1825 hx 517 rfl (hb hby at_515) rfl rfl ?_
                  refine own_aload X1825 hx 519 rfl (hb hby at_517) rfl rfl ?_
                  refine own_callS X1825 hx hZ (y := (⟨"com/example/outpost/outpost/model/DistancesKeepNearerPinLaw", "same", "(IIIIZDI[D[I[D[I)Z"⟩ : MethodName)) hown (own_hw hw 13 rfl) (own_hw hw 14 rfl) (by decide) (rm_same_A1 l Z a0 hw [] (1 : Int32) (3 : Int32) (3 : Int32) (3 : Int32) d i2 b365 b369 b1599 b1663 k365 k369 k1599 k1663 [(.double (4652007308841189376 : UInt64)), (.double (4652016104934211584 : UInt64)), (.double (4652024901027233792 : UInt64)), (.double e0), (.double e1), (.double e2)] [(.int (10 : Int32)), (.int (11 : Int32)), (.int (12 : Int32)), (.int (13 : Int32)), (.int (14 : Int32)), (.int (15 : Int32))] [(.double (4652007308841189376 : UInt64)), (.double (4652016104934211584 : UInt64)), (.double (4652024901027233792 : UInt64)), (.double e0), (.double e1), (.double e2)] [(.int (10 : Int32)), (.int (11 : Int32)), (.int (12 : Int32)), (.int (13 : Int32)), (.int (14 : Int32)), (.int (15 : Int32))] (4652016104934211584 : UInt64) (11 : Int32) T1814.heap n0 z1824 f1819 f1818 fu1814 fw1814 (by decide) rfl rfl (by decide) rfl rfl (own_self own_cst.2.1)) (own_hw hw 16 rfl) (own_hw hw 15 rfl) (by decide) e1825 (by rw [hml]; rfl) [(.int (1 : Int32)), (.int (3 : Int32)), (.int (3 : Int32)), (.int (3 : Int32)), (.int (0 : Int32)), (.double d), (.int i2), (.ref b365), (.ref b369), (.ref b1599), (.ref b1663)] 0 (by decide) (Nat.le_of_eq rfl) (by decide) (by decide) (lenOf own_pd3 rfl) rfl rfl 522 rfl (hb hby at_519) fun v1827 T1827 Lc1827 X1827 hQ1827 => ?_
                  obtain ⟨rfl, Nq1827, e1827⟩ := hQ1827
                  have N1828 := Fr.app N1826 Nq1827
                  show own_Go _ _ _ _ _ (State.setTop _ (mkF _ 522 _ [(.int (1 : Int32))]))
                  refine own_ifNo X1827 hx 525 rfl (hb hby at_522) (by decide) ?_
                  refine own_iconst X1827 hx 526 rfl (hb hby at_525) (2 : Int32) rfl ?_
                  refine own_iload X1827 hx 528 rfl (hb hby at_526) rfl ?_
                  refine own_iload X1827 hx 530 rfl (hb hby at_528) rfl ?_
                  refine own_iload X1827 hx 532 rfl (hb hby at_530) rfl ?_
                  refine own_iload X1827 hx 534 rfl (hb hby at_532) rfl ?_
                  refine own_dload X1827 hx 536 rfl (hb hby at_534) rfl ?_
                  refine own_iloadN X1827 hx 537 rfl (hb hby at_536) rfl ?_
                  refine own_aload X1827 hx 539 rfl (hb hby at_537) rfl rfl ?_
                  refine own_aload X1827 hx 541 rfl (hb hby at_539) rfl rfl ?_
                  refine own_aload X1827 hx 543 rfl (hb hby at_541) rfl rfl ?_
                  refine own_aload X1827 hx 545 rfl (hb hby at_543) rfl rfl ?_
                  refine own_callS X1827 hx hZ (y := (⟨"com/example/outpost/outpost/model/DistancesKeepNearerPinLaw", "same", "(IIIIZDI[D[I[D[I)Z"⟩ : MethodName)) hown (own_hw hw 13 rfl) (own_hw hw 14 rfl) (by decide) (rm_same_A1 l Z a0 hw [] (2 : Int32) (3 : Int32) (3 : Int32) (3 : Int32) d i2 b365 b369 b1599 b1663 k365 k369 k1599 k1663 [(.double (4652007308841189376 : UInt64)), (.double (4652016104934211584 : UInt64)), (.double (4652024901027233792 : UInt64)), (.double e0), (.double e1), (.double e2)] [(.int (10 : Int32)), (.int (11 : Int32)), (.int (12 : Int32)), (.int (13 : Int32)), (.int (14 : Int32)), (.int (15 : Int32))] [(.double (4652007308841189376 : UInt64)), (.double (4652016104934211584 : UInt64)), (.double (4652024901027233792 : UInt64)), (.double e0), (.double e1), (.double e2)] [(.int (10 : Int32)), (.int (11 : Int32)), (.int (12 : Int32)), (.int (13 : Int32)), (.int (14 : Int32)), (.int (15 : Int32))] (4652024901027233792 : UInt64) (12 : Int32) T1814.heap n0 z1824 f1819 f1818 fu1814 fw1814 (by decide) rfl rfl (by decide) rfl rfl (own_self own_cst.2.2.1)) (own_hw hw 16 rfl) (own_hw hw 15 rfl) (by decide) e1827 (by rw [hml]; rfl) [(.int (2 : Int32)), (.int (3 : Int32)), (.int (3 : Int32)), (.int (3 : Int32)), (.int (0 : Int32)), (.double d), (.int i2), (.ref b365), (.ref b369), (.ref b1599), (.ref b1663)] 0 (by decide) (Nat.le_of_eq rfl) (by decide) (by decide) (lenOf own_pd3 rfl) rfl rfl 548 rfl (hb hby at_545) fun v1829 T1829 Lc1829 X1829 hQ1829 => ?_
                  obtain ⟨rfl, Nq1829, e1829⟩ := hQ1829
                  have N1830 := Fr.app N1828 Nq1829
                  show own_Go _ _ _ _ _ (State.setTop _ (mkF _ 548 _ [(.int (1 : Int32))]))
                  refine own_ifNo X1829 hx 551 rfl (hb hby at_548) (by decide) ?_
                  refine own_iconst X1829 hx 552 rfl (hb hby at_551) (3 : Int32) rfl ?_
                  refine own_iload X1829 hx 554 rfl (hb hby at_552) rfl ?_
                  refine own_iload X1829 hx 556 rfl (hb hby at_554) rfl ?_
                  refine own_iload X1829 hx 558 rfl (hb hby at_556) rfl ?_
                  refine own_iload X1829 hx 560 rfl (hb hby at_558) rfl ?_
                  refine own_dload X1829 hx 562 rfl (hb hby at_560) rfl ?_
                  refine own_iloadN X1829 hx 563 rfl (hb hby at_562) rfl ?_
                  refine own_aload X1829 hx 565 rfl (hb hby at_563) rfl rfl ?_
                  refine own_aload X1829 hx 567 rfl (hb hby at_565) rfl rfl ?_
                  refine own_aload X1829 hx 569 rfl (hb hby at_567) rfl rfl ?_
                  refine own_aload X1829 hx 571 rfl (hb hby at_569) rfl rfl ?_
                  refine own_callS X1829 hx hZ (y := (⟨"com/example/outpost/outpost/model/DistancesKeepNearerPinLaw", "same", "(IIIIZDI[D[I[D[I)Z"⟩ : MethodName)) hown (own_hw hw 13 rfl) (own_hw hw 14 rfl) (by decide) (rm_same_A1 l Z a0 hw [] (3 : Int32) (3 : Int32) (3 : Int32) (3 : Int32) d i2 b365 b369 b1599 b1663 k365 k369 k1599 k1663 [(.double (4652007308841189376 : UInt64)), (.double (4652016104934211584 : UInt64)), (.double (4652024901027233792 : UInt64)), (.double e0), (.double e1), (.double e2)] [(.int (10 : Int32)), (.int (11 : Int32)), (.int (12 : Int32)), (.int (13 : Int32)), (.int (14 : Int32)), (.int (15 : Int32))] [(.double (4652007308841189376 : UInt64)), (.double (4652016104934211584 : UInt64)), (.double (4652024901027233792 : UInt64)), (.double e0), (.double e1), (.double e2)] [(.int (10 : Int32)), (.int (11 : Int32)), (.int (12 : Int32)), (.int (13 : Int32)), (.int (14 : Int32)), (.int (15 : Int32))] e0 (13 : Int32) T1814.heap n0 z1824 f1819 f1818 fu1814 fw1814 (by decide) rfl rfl (by decide) rfl rfl (own_self nn0)) (own_hw hw 16 rfl) (own_hw hw 15 rfl) (by decide) e1829 (by rw [hml]; rfl) [(.int (3 : Int32)), (.int (3 : Int32)), (.int (3 : Int32)), (.int (3 : Int32)), (.int (0 : Int32)), (.double d), (.int i2), (.ref b365), (.ref b369), (.ref b1599), (.ref b1663)] 0 (by decide) (Nat.le_of_eq rfl) (by decide) (by decide) (lenOf own_pd3 rfl) rfl rfl 574 rfl (hb hby at_571) fun v1831 T1831 Lc1831 X1831 hQ1831 => ?_
                  obtain ⟨rfl, Nq1831, e1831⟩ := hQ1831
                  have N1832 := Fr.app N1830 Nq1831
                  show own_Go _ _ _ _ _ (State.setTop _ (mkF _ 574 _ [(.int (1 : Int32))]))
                  refine own_ifNo X1831 hx 577 rfl (hb hby at_574) (by decide) ?_
                  refine own_iconst X1831 hx 578 rfl (hb hby at_577) (4 : Int32) rfl ?_
                  refine own_iload X1831 hx 580 rfl (hb hby at_578) rfl ?_
                  refine own_iload X1831 hx 582 rfl (hb hby at_580) rfl ?_
                  refine own_iload X1831 hx 584 rfl (hb hby at_582) rfl ?_
                  refine own_iload X1831 hx 586 rfl (hb hby at_584) rfl ?_
                  refine own_dload X1831 hx 588 rfl (hb hby at_586) rfl ?_
                  refine own_iloadN X1831 hx 589 rfl (hb hby at_588) rfl ?_
                  refine own_aload X1831 hx 591 rfl (hb hby at_589) rfl rfl ?_
                  refine own_aload X1831 hx 593 rfl (hb hby at_591) rfl rfl ?_
                  refine own_aload X1831 hx 595 rfl (hb hby at_593) rfl rfl ?_
                  refine own_aload X1831 hx 597 rfl (hb hby at_595) rfl rfl ?_
                  refine own_callS X1831 hx hZ (y := (⟨"com/example/outpost/outpost/model/DistancesKeepNearerPinLaw", "same", "(IIIIZDI[D[I[D[I)Z"⟩ : MethodName)) hown (own_hw hw 13 rfl) (own_hw hw 14 rfl) (by decide) (rm_same_A1 l Z a0 hw [] (4 : Int32) (3 : Int32) (3 : Int32) (3 : Int32) d i2 b365 b369 b1599 b1663 k365 k369 k1599 k1663 [(.double (4652007308841189376 : UInt64)), (.double (4652016104934211584 : UInt64)), (.double (4652024901027233792 : UInt64)), (.double e0), (.double e1), (.double e2)] [(.int (10 : Int32)), (.int (11 : Int32)), (.int (12 : Int32)), (.int (13 : Int32)), (.int (14 : Int32)), (.int (15 : Int32))] [(.double (4652007308841189376 : UInt64)), (.double (4652016104934211584 : UInt64)), (.double (4652024901027233792 : UInt64)), (.double e0), (.double e1), (.double e2)] [(.int (10 : Int32)), (.int (11 : Int32)), (.int (12 : Int32)), (.int (13 : Int32)), (.int (14 : Int32)), (.int (15 : Int32))] e1 (14 : Int32) T1814.heap n0 z1824 f1819 f1818 fu1814 fw1814 (by decide) rfl rfl (by decide) rfl rfl (own_self nn1)) (own_hw hw 16 rfl) (own_hw hw 15 rfl) (by decide) e1831 (by rw [hml]; rfl) [(.int (4 : Int32)), (.int (3 : Int32)), (.int (3 : Int32)), (.int (3 : Int32)), (.int (0 : Int32)), (.double d), (.int i2), (.ref b365), (.ref b369), (.ref b1599), (.ref b1663)] 0 (by decide) (Nat.le_of_eq rfl) (by decide) (by decide) (lenOf own_pd3 rfl) rfl rfl 600 rfl (hb hby at_597) fun v1833 T1833 Lc1833 X1833 hQ1833 => ?_
                  obtain ⟨rfl, Nq1833, e1833⟩ := hQ1833
                  have N1834 := Fr.app N1832 Nq1833
                  show own_Go _ _ _ _ _ (State.setTop _ (mkF _ 600 _ [(.int (1 : Int32))]))
                  refine own_ifNo X1833 hx 603 rfl (hb hby at_600) (by decide) ?_
                  refine own_iconst X1833 hx 604 rfl (hb hby at_603) (5 : Int32) rfl ?_
                  refine own_iload X1833 hx 606 rfl (hb hby at_604) rfl ?_
                  refine own_iload X1833 hx 608 rfl (hb hby at_606) rfl ?_
                  refine own_iload X1833 hx 610 rfl (hb hby at_608) rfl ?_
                  refine own_iload X1833 hx 612 rfl (hb hby at_610) rfl ?_
                  refine own_dload X1833 hx 614 rfl (hb hby at_612) rfl ?_
                  refine own_iloadN X1833 hx 615 rfl (hb hby at_614) rfl ?_
                  refine own_aload X1833 hx 617 rfl (hb hby at_615) rfl rfl ?_
                  refine own_aload X1833 hx 619 rfl (hb hby at_617) rfl rfl ?_
                  refine own_aload X1833 hx 621 rfl (hb hby at_619) rfl rfl ?_
                  refine own_aload X1833 hx 623 rfl (hb hby at_621) rfl rfl ?_
                  refine own_callS X1833 hx hZ (y := (⟨"com/example/outpost/outpost/model/DistancesKeepNearerPinLaw", "same", "(IIIIZDI[D[I[D[I)Z"⟩ : MethodName)) hown (own_hw hw 13 rfl) (own_hw hw 14 rfl) (by decide) (rm_same_A1 l Z a0 hw [] (5 : Int32) (3 : Int32) (3 : Int32) (3 : Int32) d i2 b365 b369 b1599 b1663 k365 k369 k1599 k1663 [(.double (4652007308841189376 : UInt64)), (.double (4652016104934211584 : UInt64)), (.double (4652024901027233792 : UInt64)), (.double e0), (.double e1), (.double e2)] [(.int (10 : Int32)), (.int (11 : Int32)), (.int (12 : Int32)), (.int (13 : Int32)), (.int (14 : Int32)), (.int (15 : Int32))] [(.double (4652007308841189376 : UInt64)), (.double (4652016104934211584 : UInt64)), (.double (4652024901027233792 : UInt64)), (.double e0), (.double e1), (.double e2)] [(.int (10 : Int32)), (.int (11 : Int32)), (.int (12 : Int32)), (.int (13 : Int32)), (.int (14 : Int32)), (.int (15 : Int32))] e2 (15 : Int32) T1814.heap n0 z1824 f1819 f1818 fu1814 fw1814 (by decide) rfl rfl (by decide) rfl rfl (own_self nn2)) (own_hw hw 16 rfl) (own_hw hw 15 rfl) (by decide) e1833 (by rw [hml]; rfl) [(.int (5 : Int32)), (.int (3 : Int32)), (.int (3 : Int32)), (.int (3 : Int32)), (.int (0 : Int32)), (.double d), (.int i2), (.ref b365), (.ref b369), (.ref b1599), (.ref b1663)] 0 (by decide) (Nat.le_of_eq rfl) (by decide) (by decide) (lenOf own_pd3 rfl) rfl rfl 626 rfl (hb hby at_623) fun v1835 T1835 Lc1835 X1835 hQ1835 => ?_
                  obtain ⟨rfl, Nq1835, e1835⟩ := hQ1835
                  have N1836 := Fr.app N1834 Nq1835
                  show own_Go _ _ _ _ _ (State.setTop _ (mkF _ 626 _ [(.int (1 : Int32))]))
                  refine own_ifNo X1835 hx 629 rfl (hb hby at_626) (by decide) ?_
                  refine own_iconst X1835 hx 630 rfl (hb hby at_629) (1 : Int32) rfl ?_
                  refine own_goto X1835 hx 634 (hb hby at_630) (by decide) rfl ?_
                  refine own_ret X1835 (some (.int (1 : Int32))) (fun h => by rw [Bd.returns] at h; cases h) Bd.notSynchronized (by decide) (by decide) ?_ (fun fs hr => retN X1835 hx (t := .boolean) Bd.returns (by simp) (hb hby at_634) hr)
                  show Q_rm0 Z i0 i1 i2 h0 n0 _ T1835.heap _
                  rw [e1835]
                  exact ⟨rfl, N1836⟩
          by_cases hc1837 : (2 : Int32) < (own_k i0)
          ·
            refine own_icmpYes X1585 hx 254 (hb hby at_247) (tlt hc1837).1 (by decide) rfl ?_
            refine own_iload X1585 hx 256 rfl (hb hby at_254) rfl ?_
            refine own_i2d X1585 hx 257 rfl (hb hby at_256) _ rfl ?_
            exact J257 _ (if_pos hc1837).symm
          ·
            refine own_icmpNo X1585 hx 250 rfl (hb hby at_247) (flt hc1837).1 ?_
            refine own_dloadN X1585 hx 251 rfl (hb hby at_250) rfl ?_
            refine own_goto X1585 hx 257 (hb hby at_251) (by decide) rfl ?_
            exact J257 _ (if_neg hc1837).symm
        by_cases hc1838 : (1 : Int32) < (own_k i0)
        ·
          refine own_icmpYes X1578 hx 228 (hb hby at_221) (tlt hc1838).1 (by decide) rfl ?_
          refine own_iload X1578 hx 230 rfl (hb hby at_228) rfl ?_
          refine own_i2d X1578 hx 231 rfl (hb hby at_230) _ rfl ?_
          exact J231 _ (if_pos hc1838).symm
        ·
          refine own_icmpNo X1578 hx 224 rfl (hb hby at_221) (flt hc1838).1 ?_
          refine own_dloadN X1578 hx 225 rfl (hb hby at_224) rfl ?_
          refine own_goto X1578 hx 231 (hb hby at_225) (by decide) rfl ?_
          exact J231 _ (if_neg hc1838).symm
      by_cases hc1839 : (0 : Int32) < (own_k i0)
      ·
        refine own_icmpYes X453 hx 202 (hb hby at_195) (tlt hc1839).1 (by decide) rfl ?_
        refine own_iload X453 hx 204 rfl (hb hby at_202) rfl ?_
        refine own_i2d X453 hx 205 rfl (hb hby at_204) _ rfl ?_
        exact J205 _ (if_pos hc1839).symm
      ·
        refine own_icmpNo X453 hx 198 rfl (hb hby at_195) (flt hc1839).1 ?_
        refine own_dloadN X453 hx 199 rfl (hb hby at_198) rfl ?_
        refine own_goto X453 hx 205 (hb hby at_199) (by decide) rfl ?_
        exact J205 _ (if_neg hc1839).symm
  by_cases hc1840 : (((i0.toUInt32 >>> ((5 : Int32) &&& 31).toUInt32).toInt32) &&& (3 : Int32)) = (3 : Int32)
  ·
    refine own_icmpNo X0 hx 36 rfl (hb hby at_33) (teq hc1840).2 ?_
    refine own_iconst X0 hx 37 rfl (hb hby at_36) (1 : Int32) rfl ?_
    refine own_goto X0 hx 41 (hb hby at_37) (by decide) rfl ?_
    refine own_istore X0 hx 43 rfl (hb hby at_41) #[.val (.int i0), .val (.int i1), .val (.int i2), .val (.double (9218868437227405312 : UInt64)), .second, .val (.int (own_r i0)), .val (.int (own_to i0)), .val (.int (own_k i0)), .val (.int (1 : Int32)), .unset, .unset, .unset, .unset, .unset, .unset, .unset, .unset, .unset, .unset, .unset, .unset, .unset] rfl ?_
    refine own_iloadN X0 hx 44 rfl (hb hby at_43) rfl ?_
    refine own_bipush X0 hx 46 rfl (hb hby at_44) (15 : Int32) rfl ?_
    refine own_iand X0 hx 47 rfl (hb hby at_46) _ rfl ?_
    refine own_istore X0 hx 49 rfl (hb hby at_47) #[.val (.int i0), .val (.int i1), .val (.int i2), .val (.double (9218868437227405312 : UInt64)), .second, .val (.int (own_r i0)), .val (.int (own_to i0)), .val (.int (own_k i0)), .val (.int (1 : Int32)), .val (.int (i1 &&& (15 : Int32))), .unset, .unset, .unset, .unset, .unset, .unset, .unset, .unset, .unset, .unset, .unset, .unset] rfl ?_
    show own_Go _ _ _ _ _ (State.setTop _ (mkF _ 49 #[.val (.int i0), .val (.int i1), .val (.int i2), .val (.double (9218868437227405312 : UInt64)), .second, .val (.int (own_r i0)), .val (.int (own_to i0)), .val (.int (own_k i0)), .val (.int (1 : Int32)), .val (.int (own_a0 i1)), .unset, .unset, .unset, .unset, .unset, .unset, .unset, .unset, .unset, .unset, .unset, .unset] []))
    refine own_iload X0 hx 51 rfl (hb hby at_49) rfl ?_
    refine own_iloadN X0 hx 52 rfl (hb hby at_51) rfl ?_
    refine own_iconst X0 hx 53 rfl (hb hby at_52) (4 : Int32) rfl ?_
    refine own_iushr X0 hx 54 rfl (hb hby at_53) _ rfl ?_
    refine own_bipush X0 hx 56 rfl (hb hby at_54) (15 : Int32) rfl ?_
    refine own_iand X0 hx 57 rfl (hb hby at_56) _ rfl ?_
    refine own_iadd X0 hx 58 rfl (hb hby at_57) _ rfl ?_
    refine own_istore X0 hx 60 rfl (hb hby at_58) #[.val (.int i0), .val (.int i1), .val (.int i2), .val (.double (9218868437227405312 : UInt64)), .second, .val (.int (own_r i0)), .val (.int (own_to i0)), .val (.int (own_k i0)), .val (.int (1 : Int32)), .val (.int (own_a0 i1)), .val (.int ((own_a0 i1) + (((i1.toUInt32 >>> ((4 : Int32) &&& 31).toUInt32).toInt32) &&& (15 : Int32)))), .unset, .unset, .unset, .unset, .unset, .unset, .unset, .unset, .unset, .unset, .unset] rfl ?_
    show own_Go _ _ _ _ _ (State.setTop _ (mkF _ 60 #[.val (.int i0), .val (.int i1), .val (.int i2), .val (.double (9218868437227405312 : UInt64)), .second, .val (.int (own_r i0)), .val (.int (own_to i0)), .val (.int (own_k i0)), .val (.int (1 : Int32)), .val (.int (own_a0 i1)), .val (.int (own_a1 i1)), .unset, .unset, .unset, .unset, .unset, .unset, .unset, .unset, .unset, .unset, .unset] []))
    refine own_iload X0 hx 62 rfl (hb hby at_60) rfl ?_
    refine own_iloadN X0 hx 63 rfl (hb hby at_62) rfl ?_
    refine own_bipush X0 hx 65 rfl (hb hby at_63) (8 : Int32) rfl ?_
    refine own_iushr X0 hx 66 rfl (hb hby at_65) _ rfl ?_
    refine own_bipush X0 hx 68 rfl (hb hby at_66) (15 : Int32) rfl ?_
    refine own_iand X0 hx 69 rfl (hb hby at_68) _ rfl ?_
    refine own_iadd X0 hx 70 rfl (hb hby at_69) _ rfl ?_
    refine own_istore X0 hx 72 rfl (hb hby at_70) #[.val (.int i0), .val (.int i1), .val (.int i2), .val (.double (9218868437227405312 : UInt64)), .second, .val (.int (own_r i0)), .val (.int (own_to i0)), .val (.int (own_k i0)), .val (.int (1 : Int32)), .val (.int (own_a0 i1)), .val (.int (own_a1 i1)), .val (.int ((own_a1 i1) + (((i1.toUInt32 >>> ((8 : Int32) &&& 31).toUInt32).toInt32) &&& (15 : Int32)))), .unset, .unset, .unset, .unset, .unset, .unset, .unset, .unset, .unset, .unset] rfl ?_
    show own_Go _ _ _ _ _ (State.setTop _ (mkF _ 72 #[.val (.int i0), .val (.int i1), .val (.int i2), .val (.double (9218868437227405312 : UInt64)), .second, .val (.int (own_r i0)), .val (.int (own_to i0)), .val (.int (own_k i0)), .val (.int (1 : Int32)), .val (.int (own_a0 i1)), .val (.int (own_a1 i1)), .val (.int (own_a2 i1)), .unset, .unset, .unset, .unset, .unset, .unset, .unset, .unset, .unset, .unset] []))
    refine own_iload X0 hx 74 rfl (hb hby at_72) rfl ?_
    refine own_ifNo X0 hx 77 rfl (hb hby at_74) (by decide) ?_
    refine own_dloadN X0 hx 78 rfl (hb hby at_77) rfl ?_
    refine own_goto X0 hx 89 (hb hby at_78) (by decide) rfl ?_
    exact J89 _ _ own_inf_nan
  ·
    refine own_icmpYes X0 hx 40 (hb hby at_33) (feq hc1840).2 (by decide) rfl ?_
    refine own_iconst X0 hx 41 rfl (hb hby at_40) (0 : Int32) rfl ?_
    refine own_istore X0 hx 43 rfl (hb hby at_41) #[.val (.int i0), .val (.int i1), .val (.int i2), .val (.double (9218868437227405312 : UInt64)), .second, .val (.int (own_r i0)), .val (.int (own_to i0)), .val (.int (own_k i0)), .val (.int (0 : Int32)), .unset, .unset, .unset, .unset, .unset, .unset, .unset, .unset, .unset, .unset, .unset, .unset, .unset] rfl ?_
    refine own_iloadN X0 hx 44 rfl (hb hby at_43) rfl ?_
    refine own_bipush X0 hx 46 rfl (hb hby at_44) (15 : Int32) rfl ?_
    refine own_iand X0 hx 47 rfl (hb hby at_46) _ rfl ?_
    refine own_istore X0 hx 49 rfl (hb hby at_47) #[.val (.int i0), .val (.int i1), .val (.int i2), .val (.double (9218868437227405312 : UInt64)), .second, .val (.int (own_r i0)), .val (.int (own_to i0)), .val (.int (own_k i0)), .val (.int (0 : Int32)), .val (.int (i1 &&& (15 : Int32))), .unset, .unset, .unset, .unset, .unset, .unset, .unset, .unset, .unset, .unset, .unset, .unset] rfl ?_
    show own_Go _ _ _ _ _ (State.setTop _ (mkF _ 49 #[.val (.int i0), .val (.int i1), .val (.int i2), .val (.double (9218868437227405312 : UInt64)), .second, .val (.int (own_r i0)), .val (.int (own_to i0)), .val (.int (own_k i0)), .val (.int (0 : Int32)), .val (.int (own_a0 i1)), .unset, .unset, .unset, .unset, .unset, .unset, .unset, .unset, .unset, .unset, .unset, .unset] []))
    refine own_iload X0 hx 51 rfl (hb hby at_49) rfl ?_
    refine own_iloadN X0 hx 52 rfl (hb hby at_51) rfl ?_
    refine own_iconst X0 hx 53 rfl (hb hby at_52) (4 : Int32) rfl ?_
    refine own_iushr X0 hx 54 rfl (hb hby at_53) _ rfl ?_
    refine own_bipush X0 hx 56 rfl (hb hby at_54) (15 : Int32) rfl ?_
    refine own_iand X0 hx 57 rfl (hb hby at_56) _ rfl ?_
    refine own_iadd X0 hx 58 rfl (hb hby at_57) _ rfl ?_
    refine own_istore X0 hx 60 rfl (hb hby at_58) #[.val (.int i0), .val (.int i1), .val (.int i2), .val (.double (9218868437227405312 : UInt64)), .second, .val (.int (own_r i0)), .val (.int (own_to i0)), .val (.int (own_k i0)), .val (.int (0 : Int32)), .val (.int (own_a0 i1)), .val (.int ((own_a0 i1) + (((i1.toUInt32 >>> ((4 : Int32) &&& 31).toUInt32).toInt32) &&& (15 : Int32)))), .unset, .unset, .unset, .unset, .unset, .unset, .unset, .unset, .unset, .unset, .unset] rfl ?_
    show own_Go _ _ _ _ _ (State.setTop _ (mkF _ 60 #[.val (.int i0), .val (.int i1), .val (.int i2), .val (.double (9218868437227405312 : UInt64)), .second, .val (.int (own_r i0)), .val (.int (own_to i0)), .val (.int (own_k i0)), .val (.int (0 : Int32)), .val (.int (own_a0 i1)), .val (.int (own_a1 i1)), .unset, .unset, .unset, .unset, .unset, .unset, .unset, .unset, .unset, .unset, .unset] []))
    refine own_iload X0 hx 62 rfl (hb hby at_60) rfl ?_
    refine own_iloadN X0 hx 63 rfl (hb hby at_62) rfl ?_
    refine own_bipush X0 hx 65 rfl (hb hby at_63) (8 : Int32) rfl ?_
    refine own_iushr X0 hx 66 rfl (hb hby at_65) _ rfl ?_
    refine own_bipush X0 hx 68 rfl (hb hby at_66) (15 : Int32) rfl ?_
    refine own_iand X0 hx 69 rfl (hb hby at_68) _ rfl ?_
    refine own_iadd X0 hx 70 rfl (hb hby at_69) _ rfl ?_
    refine own_istore X0 hx 72 rfl (hb hby at_70) #[.val (.int i0), .val (.int i1), .val (.int i2), .val (.double (9218868437227405312 : UInt64)), .second, .val (.int (own_r i0)), .val (.int (own_to i0)), .val (.int (own_k i0)), .val (.int (0 : Int32)), .val (.int (own_a0 i1)), .val (.int (own_a1 i1)), .val (.int ((own_a1 i1) + (((i1.toUInt32 >>> ((8 : Int32) &&& 31).toUInt32).toInt32) &&& (15 : Int32)))), .unset, .unset, .unset, .unset, .unset, .unset, .unset, .unset, .unset, .unset] rfl ?_
    show own_Go _ _ _ _ _ (State.setTop _ (mkF _ 72 #[.val (.int i0), .val (.int i1), .val (.int i2), .val (.double (9218868437227405312 : UInt64)), .second, .val (.int (own_r i0)), .val (.int (own_to i0)), .val (.int (own_k i0)), .val (.int (0 : Int32)), .val (.int (own_a0 i1)), .val (.int (own_a1 i1)), .val (.int (own_a2 i1)), .unset, .unset, .unset, .unset, .unset, .unset, .unset, .unset, .unset, .unset] []))
    refine own_iload X0 hx 74 rfl (hb hby at_72) rfl ?_
    refine own_ifYes X0 hx 81 (hb hby at_74) (by decide) (by decide) rfl ?_
    refine own_iloadN X0 hx 82 rfl (hb hby at_81) rfl ?_
    refine own_bipush X0 hx 84 rfl (hb hby at_82) (12 : Int32) rfl ?_
    refine own_iushr X0 hx 85 rfl (hb hby at_84) _ rfl ?_
    refine own_bipush X0 hx 87 rfl (hb hby at_85) (63 : Int32) rfl ?_
    refine own_iand X0 hx 88 rfl (hb hby at_87) _ rfl ?_
    refine own_i2d X0 hx 89 rfl (hb hby at_88) _ rfl ?_
    exact J89 _ _ (own_is.i2d _).val
set_option maxRecDepth 65536 in
set_option maxHeartbeats 40000000 in
theorem comes_1 {Post : Tables → Env → Array Value → State → Outcome → State → Prop} (hpost : ∀ tb e args s v u, (limb_1_1.after args s (.returned v) u = true ∧ limb_1_2.after args s (.returned v) u = true ∧ True) → FrameEnd s (.returned v) u (Jvm.fieldLocs frame_1_writes args s ++ Jvm.arrayLocs frame_1_arrays args s ++ Jvm.staticLocs frame_1_statics s) 16 128 → Post tb e args s (.returned v) u) :
    ArmFor flags0 classFile x code maxLocals ret World_1 tables_1 room_1 Calls_1 rest_1 Pre_1 Post := by
  intro l hfl _ _ p e ha hc hk s m args below hf hA hF happ hP
  obtain ⟨hcalls, hrest, hpre⟩ := hP
  obtain ⟨-, -, -, hnamed, -, -, -, hat⟩ := (Spec.applies_iff hf).mp happ
  obtain ⟨hg, hn⟩ := and_e (Cond.before_iff.mp (show (Jvm.Cond.and given_1 narrow_1).before args s = true from hpre))
  obtain ⟨hcount, hg1⟩ := and_e hg
  obtain ⟨ha0, hgr0⟩ := and_e hg1
  obtain ⟨ha1, hgr1⟩ := and_e hgr0
  obtain ⟨w0, w1, w2, rfl⟩ : ∃ w0 w1 w2 : Value, args = #[w0, w1, w2] := by
    have hs : args.size = 3 := by simpa [Cond.value, given_1] using hcount
    obtain ⟨L⟩ := args
    match L, hs with
    | [w0, w1, w2], _ => exact ⟨w0, w1, w2, rfl⟩
  have hw := fun d (hd : d ∈ tables_1) => atoms_spec (ws := Jvm.Cond.code x code maxLocals ret :: tables_1) hat d (List.mem_cons_of_mem _ hd)
  have hfit : Fit s := fun {y c} hc i hi => by
    obtain ⟨ha, rfl⟩ := Array.getElem?_eq_some_iff.mp hc
    have q := List.all_eq_true.mp ((Array.all_eq_true_iff_forall_mem.mp hF) _ (Array.getElem_mem ha)) i (List.mem_range.mpr hi)
    simpa [Array.getElem?_eq_getElem hi] using q
  obtain ⟨i0, ei0⟩ := is_v ha0
  obtain rfl : w0 = (.int i0) := Option.some.inj ei0
  obtain ⟨i1, ei1⟩ := is_v ha1
  obtain rfl : w1 = (.int i1) := Option.some.inj ei1
  obtain ⟨i2, ei2⟩ := is_v hgr1
  obtain rfl : w2 = (.int i2) := Option.some.inj ei2
  obtain ⟨n, o, h1, h2, h3, _, L, rfl, ⟨rfl, N⟩, hq⟩ := rm0 l s _ hw tables_1 i0 i1 i2 s.heap s.heap.size (Nat.le_refl _)  p e ha hc hk s m _ below hf ((Spec.applies_iff_loose hf).mp happ).1 ⟨rfl, State.Warmed39.refl s, rfl⟩ trivial
  refine ⟨n, _, h1, h2, h3, hpost _ _ _ _ _ _ ⟨Cond.after_iff.mpr rfl, Cond.after_iff.mpr (eq_i res_at (Term.int_eval (1)) rfl), trivial⟩ ⟨hq.1, hq.2.1, (hq.2.2.sift fun y hy => Or.inr (N y hy)).mono (by decide) (by decide)⟩⟩
theorem main_1_1 : Claimed_1_1 := comes_1 fun _ _ _ _ _ _ h hF => ⟨h.1, hF⟩
theorem main_1_2 : Claimed_1_2 := comes_1 fun _ _ _ _ _ _ h hF => ⟨h.2.1, hF⟩
end Jvm.Pilot.@@N@@
namespace Jvm.Pilot.@@N@@
open Jvm Jvm.ClassFile Sem Op Lib Jvm.Free Jvm.Stand Jvm.Pilot.@@N@@.Jvm.D
/-! MADE BY PROGRAM (witnessworld.py) out of the Statement's table words and the real class files: 11 classes; the members and pool entries that the words name. The judged class is class 1, her method 4. -/
namespace start1
open Jvm.ClassFile
def u (s : String) : CpInfo := .utf8 (stringToUtf16 s)
/-- a pool by its gaps: so many unusable entries, then the entry; so many at the end -/
def gap : Nat → List CpInfo → List CpInfo
  | 0, r => r
  | n + 1, r => .unusable :: gap n r
def poolList (es : List (Nat × CpInfo)) (last : Nat) : List CpInfo := es.foldr (fun e r => gap e.1 (e.2 :: r)) (gap last [])
def pool (es : List (Nat × CpInfo)) (last : Nat) : Array CpInfo := ⟨poolList es last⟩
def fileOf (pool : Array CpInfo) (this : Nat) (attrs : Array Attribute := #[]) (ms : Array MethodInfo := #[]) (fl : Nat := 33) (sup : Nat := 0) (ifs : Array Nat := #[]) (fds : Array FieldInfo := #[]) : ClassFile where
  minorVersion := 0
  majorVersion := 65
  constantPool := pool
  accessFlags := fl
  thisClass := this
  superClass := sup
  interfaces := ifs
  fields := fds
  methods := ms
  attributes := attrs
def plain (name : String) (sup : Option ClassId) : Class where
  name := name
  kind := .ordinary
  loader := none
  accessFlags := 33
  super := sup
  interfaces := #[]
  cf := none
  fields := #[]
  methods := #[]
  instanceTypes := #[]
  staticTypes := #[]
  resolved := #[]
  callSites := []
  init := .initialized
  statics := none
  mirror := none

def pool0 : Array CpInfo := pool [(5, u "<init>"), (0, u "()V"), (1, .class_ 10), (1, u "java/lang/Object")] 113

def k0m0 : Method := { name := "<init>", desc := "()V", sig := { parameters := [], returnType := none }, accessFlags := 1, code := none }
/-- java/lang/Object -/
def k0 : Class := { plain "java/lang/Object" none with
  accessFlags := 33
  interfaces := #[]
  cf := some (fileOf pool0 8 #[] #[{ accessFlags := 1, nameIndex := 5, descriptorIndex := 6, attributes := #[] }] 33 0 #[] #[])
  fields := #[]
  methods := #[k0m0]
  instanceTypes := #[]
  staticTypes := #[]
  resolved := Array.replicate 124 none
  statics := none }

def pool1 : Array CpInfo := pool [(2, .class_ 4), (1, u "java/lang/Object"), (0, u "<init>"), (0, u "()V"), (0, .methodref 8 9), (0, .class_ 10), (0, .nameAndType 11 12), (0, u "com/example/outpost/outpost/model/DistancesKeepNearerPinLaw"), (0, u "expD"), (0, u "(IIIIZD[D)D"), (0, .methodref 8 14), (0, .nameAndType 15 16), (0, u "expF"), (0, u "(IIIIZI[I)I"), (2, .double 9218868437227405312), (1, .double 4652007308841189376), (1, .double 4652016104934211584), (1, .double 4652024901027233792), (1, .double 4652033697120256000), (1, .double 4652042493213278208), (1, .double 4652051289306300416), (1, .interfaceMethodref 34 35), (0, .class_ 36), (0, .nameAndType 37 38), (0, u "com/example/outpost/outpost/model/Distances"), (0, u "keepNearer"), (0, u "(IDII[D[I)Z"), (0, .methodref 8 40), (0, .nameAndType 41 42), (0, u "same"), (0, u "(IIIIZDI[D[I[D[I)Z"), (3, u "law"), (0, u "(III)Z")] 6

def k1m0 : Method := { name := "<init>", desc := "()V", sig := { parameters := [], returnType := none }, accessFlags := 1, code := none }
def k1c1 : Code := { maxStack := 3, maxLocals := 9, code := method_2_code, exceptionTable := #[], attributes := #[] }
def k1m1 : Method := { name := "expD", desc := "(IIIIZD[D)D", sig := { parameters := [.int, .int, .int, .int, .boolean, .double, (.array .double)], returnType := some .double }, accessFlags := 10, code := some k1c1 }
def k1c2 : Code := { maxStack := 3, maxLocals := 8, code := method_3_code, exceptionTable := #[], attributes := #[] }
def k1m2 : Method := { name := "expF", desc := "(IIIIZI[I)I", sig := { parameters := [.int, .int, .int, .int, .boolean, .int, (.array .int)], returnType := some .int }, accessFlags := 10, code := some k1c2 }
def k1c3 : Code := { maxStack := 10, maxLocals := 12, code := method_4_code, exceptionTable := #[], attributes := #[] }
def k1m3 : Method := { name := "same", desc := "(IIIIZDI[D[I[D[I)Z", sig := { parameters := [.int, .int, .int, .int, .boolean, .double, .int, (.array .double), (.array .int), (.array .double), (.array .int)], returnType := some .boolean }, accessFlags := 10, code := some k1c3 }
def k1c4 : Code := { maxStack := 12, maxLocals := 22, code := code, exceptionTable := #[], attributes := #[] }
def k1m4 : Method := { name := "law", desc := "(III)Z", sig := { parameters := [.int, .int, .int], returnType := some .boolean }, accessFlags := 9, code := some k1c4 }
/-- com/example/outpost/outpost/model/DistancesKeepNearerPinLaw -/
def k1 : Class := { plain "com/example/outpost/outpost/model/DistancesKeepNearerPinLaw" (some 0) with
  accessFlags := 49
  interfaces := #[]
  cf := some (fileOf pool1 8 #[] #[{ accessFlags := 1, nameIndex := 5, descriptorIndex := 6, attributes := #[] }, { accessFlags := 10, nameIndex := 11, descriptorIndex := 12, attributes := #[] }, { accessFlags := 10, nameIndex := 15, descriptorIndex := 16, attributes := #[] }, { accessFlags := 10, nameIndex := 41, descriptorIndex := 42, attributes := #[] }, { accessFlags := 9, nameIndex := 46, descriptorIndex := 47, attributes := #[] }] 49 2 #[] #[])
  fields := #[]
  methods := #[k1m0, k1m1, k1m2, k1m3, k1m4]
  instanceTypes := #[]
  staticTypes := #[]
  resolved := Array.replicate 54 none
  statics := none }

def pool2 : Array CpInfo := pool [(2, .class_ 4), (1, u "com/example/outpost/outpost/model/Distances"), (7, .class_ 14), (1, u "com/example/outpost/outpost/model/Distances$Visitor"), (28, u "keepNearer"), (0, u "(IDII[D[I)Z"), (0, .class_ 46), (0, u "java/lang/Object")] 39

def k2c0 : Code := { maxStack := 5, maxLocals := 9, code := prog_60_method_9_code, exceptionTable := #[], attributes := #[] }
def k2m0 : Method := { name := "keepNearer", desc := "(IDII[D[I)Z", sig := { parameters := [.int, .double, .int, .int, (.array .double), (.array .int)], returnType := some .boolean }, accessFlags := 9, code := some k2c0 }
/-- com/example/outpost/outpost/model/Distances -/
def k2 : Class := { plain "com/example/outpost/outpost/model/Distances" (some 0) with
  accessFlags := 1537
  interfaces := #[]
  cf := some (fileOf pool2 2 #[.nestMembers #[12]] #[{ accessFlags := 9, nameIndex := 43, descriptorIndex := 44, attributes := #[] }] 1537 45 #[] #[])
  fields := #[]
  methods := #[k2m0]
  instanceTypes := #[]
  staticTypes := #[]
  resolved := Array.replicate 86 none
  statics := none }

def pool3 : Array CpInfo := pool [(1, u "java/lang/Cloneable"), (0, .class_ 1), (0, u "java/lang/Object"), (0, .class_ 3)] 3

/-- java/lang/Cloneable -/
def k3 : Class := { plain "java/lang/Cloneable" (some 0) with
  accessFlags := 1537
  interfaces := #[]
  cf := some (fileOf pool3 2 #[] #[] 1537 4 #[] #[])
  fields := #[]
  methods := #[]
  instanceTypes := #[]
  staticTypes := #[]
  resolved := Array.replicate 8 none
  statics := none }

def pool4 : Array CpInfo := pool [(1, u "java/io/Serializable"), (0, .class_ 1), (0, u "java/lang/Object"), (0, .class_ 3)] 3

/-- java/io/Serializable -/
def k4 : Class := { plain "java/io/Serializable" (some 0) with
  accessFlags := 1537
  interfaces := #[]
  cf := some (fileOf pool4 2 #[] #[] 1537 4 #[] #[])
  fields := #[]
  methods := #[]
  instanceTypes := #[]
  staticTypes := #[]
  resolved := Array.replicate 8 none
  statics := none }

/-- the primitive byte -/
def k5 : Class := { plain "byte" none with kind := .primitive 'B', accessFlags := 0x411 }
/-- [B -/
def k6 : Class := { plain "[B" (some 0) with kind := .array 5 .byte, interfaces := #[3, 4], accessFlags := 1041 }

/-- the primitive double -/
def k7 : Class := { plain "double" none with kind := .primitive 'D', accessFlags := 0x411 }
/-- [D -/
def k8 : Class := { plain "[D" (some 0) with kind := .array 7 .double, interfaces := #[3, 4], accessFlags := 1041 }

/-- the primitive int -/
def k9 : Class := { plain "int" none with kind := .primitive 'I', accessFlags := 0x411 }
/-- [I -/
def k10 : Class := { plain "[I" (some 0) with kind := .array 9 .int, interfaces := #[3, 4], accessFlags := 1041 }

def heap : Heap := #[]
def classes : Array Class := #[k0, k1, k2, k3, k4, k5, k6, k7, k8, k9, k10]
def interned : List (Array UInt16 × Addr) := []
def slotsUsed : Nat := 0
def theMethod : MethodId := ⟨1, 4⟩
def args0 : Array Value := #[.int 5, .int 5, .int 5]
def aboutOver (below : List Frame) : State where
  vm := { classes := classes, interned := interned.toArray }
  heap := heap
  slotsUsed := slotsUsed
  threads := #[{ frames := .invoking theMethod args0 :: below }]
def below0 : List Frame := [.native { method := ⟨0, 0⟩, args := #[] }]
def about1 : State := aboutOver below0
def p0 : Program := .bare "" "" ""
def e0 : Env := launch0.env 0 0 0
theorem w_frames : about1.frames = Frame.invoking theMethod args0 :: below0 := rfl
set_option maxRecDepth 65536 in
theorem w_args : argsFit about1.vm theMethod args0 = true := by decide +kernel
set_option maxRecDepth 65536 in
theorem w_heap : heapFits about1 = true := by decide +kernel
set_option maxRecDepth 65536 in
theorem w_runnable : about1.curStatus? = some .runnable := by decide +kernel
set_option maxRecDepth 65536 in
theorem w_alone : about1.alone = true := by decide +kernel
set_option maxRecDepth 65536 in
theorem w_named : about1.methodNamed? x = some theMethod := by decide +kernel
set_option maxRecDepth 65536 in
theorem w_hears : about1.hears theMethod below0 = true := by decide +kernel
set_option maxRecDepth 65536 in
theorem w_ripe : about1.ripe theMethod args0 below0 = true := by decide +kernel
theorem w_running : about1.status = .running := rfl
set_option maxRecDepth 65536 in
theorem w_room : about1.hasRoom e0.platform room_1 = true :=
  launch0.hasRoom_least _ room_1 (by decide +kernel) (by decide +kernel) (by decide +kernel) (by decide +kernel) (by decide +kernel) (by decide +kernel)
theorem allAtoms_all (ts : List Jvm.Cond) (a : Array Jvm.Value) (st : Jvm.State) : (allAtoms ts).before a st = ts.all (fun c => c.before a st) := by
  induction ts with
  | nil => rfl
  | cons c t ih =>
    show (Jvm.Cond.and c (allAtoms t)).before a st = _
    rw [Jvm.Cond.before_and, ih, List.all_cons]
def words1 : List Jvm.Cond := Jvm.Cond.code x code maxLocals ret :: tables_1
/-- a 'code' word, met by the world's own term for the bytes: nothing is compared byte by byte -/
theorem code_word {y : MethodName} {bytes : ByteArray} {mx : Nat} {rt : Option FieldType} {a : Array Value} {s : State} {m : MethodId} {meth : Method} {c : Code} (h1 : s.methodNamed? y = some m) (h2 : s.vm.method? m = some meth) (h3 : meth.code = some c) (h4 : c.code = bytes)
    (h5 : (c.maxLocals == mx && c.exceptionTable.isEmpty && decide (c.maxStack ≤ mostOperands) && decide (meth.sig.returnType = rt) && !meth.locks && decide (parseMethodDescriptor y.desc = some meth.sig)) = true) : (Jvm.Cond.code y bytes mx rt).before a s = true := by
  simp only [Bool.and_eq_true, beq_iff_eq, Bool.not_eq_true', decide_eq_true_eq] at h5
  obtain ⟨⟨⟨⟨⟨g1, g2⟩, g3⟩, g4⟩, g5⟩, g6⟩ := h5
  simp [Cond.before, Cond.holds, Cond.value, h1, h2, h3, h4, g1, g2, g3, g4, g5, g6]
def isCode : Jvm.Cond → Bool
  | .code _ _ _ _ => true
  | _ => false
theorem all_split {L : List Jvm.Cond} {P : Jvm.Cond → Bool} (h1 : L.all (fun c => isCode c || P c) = true) (h2 : ∀ c ∈ L.filter isCode, P c = true) : L.all P = true := by
  refine List.all_eq_true.mpr fun c hc => ?_
  have h := List.all_eq_true.mp h1 c hc
  rcases Bool.eq_false_or_eq_true (isCode c) with hi | hi
  · exact h2 c (List.mem_filter.mpr ⟨hc, hi⟩)
  · simpa [hi] using h
set_option maxRecDepth 65536 in
theorem w_c0 : (Jvm.Cond.code x code maxLocals ret).before args0 about1 = true := code_word (m := ⟨1, 4⟩) (meth := k1m4) (c := k1c4) (by decide +kernel) rfl rfl rfl (by decide +kernel)
set_option maxRecDepth 65536 in
theorem w_c1 : (Jvm.Cond.code ({ cls := "com/example/outpost/outpost/model/Distances", name := "keepNearer", desc := "(IDII[D[I)Z" } : Jvm.MethodName) prog_60_method_9_code (9 : Nat) (Option.some Jvm.ClassFile.FieldType.boolean)).before args0 about1 = true := code_word (m := ⟨2, 0⟩) (meth := k2m0) (c := k2c0) (by decide +kernel) rfl rfl rfl (by decide +kernel)
set_option maxRecDepth 65536 in
theorem w_c2 : (Jvm.Cond.code ({ cls := "com/example/outpost/outpost/model/DistancesKeepNearerPinLaw", name := "same", desc := "(IIIIZDI[D[I[D[I)Z" } : Jvm.MethodName) method_4_code (12 : Nat) (Option.some Jvm.ClassFile.FieldType.boolean)).before args0 about1 = true := code_word (m := ⟨1, 3⟩) (meth := k1m3) (c := k1c3) (by decide +kernel) rfl rfl rfl (by decide +kernel)
set_option maxRecDepth 65536 in
theorem w_c3 : (Jvm.Cond.code ({ cls := "com/example/outpost/outpost/model/DistancesKeepNearerPinLaw", name := "expD", desc := "(IIIIZD[D)D" } : Jvm.MethodName) method_2_code (9 : Nat) (Option.some Jvm.ClassFile.FieldType.double)).before args0 about1 = true := code_word (m := ⟨1, 1⟩) (meth := k1m1) (c := k1c1) (by decide +kernel) rfl rfl rfl (by decide +kernel)
set_option maxRecDepth 65536 in
theorem w_c4 : (Jvm.Cond.code ({ cls := "com/example/outpost/outpost/model/DistancesKeepNearerPinLaw", name := "expF", desc := "(IIIIZI[I)I" } : Jvm.MethodName) method_3_code (8 : Nat) (Option.some Jvm.ClassFile.FieldType.int)).before args0 about1 = true := code_word (m := ⟨1, 2⟩) (meth := k1m2) (c := k1c2) (by decide +kernel) rfl rfl rfl (by decide +kernel)
def codes1 : List Jvm.Cond := [Jvm.Cond.code x code maxLocals ret, Jvm.Cond.code ({ cls := "com/example/outpost/outpost/model/Distances", name := "keepNearer", desc := "(IDII[D[I)Z" } : Jvm.MethodName) prog_60_method_9_code (9 : Nat) (Option.some Jvm.ClassFile.FieldType.boolean), Jvm.Cond.code ({ cls := "com/example/outpost/outpost/model/DistancesKeepNearerPinLaw", name := "same", desc := "(IIIIZDI[D[I[D[I)Z" } : Jvm.MethodName) method_4_code (12 : Nat) (Option.some Jvm.ClassFile.FieldType.boolean), Jvm.Cond.code ({ cls := "com/example/outpost/outpost/model/DistancesKeepNearerPinLaw", name := "expD", desc := "(IIIIZD[D)D" } : Jvm.MethodName) method_2_code (9 : Nat) (Option.some Jvm.ClassFile.FieldType.double), Jvm.Cond.code ({ cls := "com/example/outpost/outpost/model/DistancesKeepNearerPinLaw", name := "expF", desc := "(IIIIZI[I)I" } : Jvm.MethodName) method_3_code (8 : Nat) (Option.some Jvm.ClassFile.FieldType.int)]
set_option maxRecDepth 65536 in
theorem codes_eq : words1.filter isCode = codes1 := rfl
theorem w_codes : ∀ c ∈ words1.filter isCode, c.before args0 about1 = true := by
  rw [codes_eq]
  intro c hc
  simp only [codes1, List.mem_cons, List.not_mem_nil, or_false] at hc
  rcases hc with rfl | rfl | rfl | rfl | rfl
  · exact w_c0
  · exact w_c1
  · exact w_c2
  · exact w_c3
  · exact w_c4
set_option maxRecDepth 65536 in
theorem w_t1 : words1.all (fun c => isCode c || c.before args0 about1) = true := by decide +kernel
theorem w_tables : (allAtoms (Jvm.Cond.code x code maxLocals ret :: tables_1)).before args0 about1 = true := by
  rw [allAtoms_all]
  show words1.all (fun c => c.before args0 about1) = true
  refine all_split ?_ w_codes
  rw [w_t1]
set_option maxRecDepth 65536 in
theorem w_case : (Jvm.Cond.and given_1 narrow_1).before args0 about1 = true := by decide +kernel
theorem w_applies : (headSpec (Jvm.Cond.code x code maxLocals ret :: tables_1) room_1).applies x e0.platform about1 = true :=
  (Spec.applies_iff w_frames).mpr ⟨w_running, w_runnable, w_alone, w_named, w_hears, w_ripe, w_room, w_tables⟩
theorem atStart : AtStart classFile x code maxLocals ret World_1 tables_1 room_1 Calls_1 rest_1 Pre_1 launch0 p0 e0 about1 theMethod args0 below0 :=
  ⟨lists_1, trivial, launch0.admits_env _ _ _, launch0.least_env, fairChoices_fair.cas, fairChoices_fair.clock, w_frames, w_args, w_heap, w_applies, trivial, trivial, w_case⟩
end start1
theorem witness_1 : WitnessClaimed_1 := ⟨start1.p0, start1.e0, start1.about1, start1.theMethod, start1.args0, start1.below0, start1.atStart⟩
end Jvm.Pilot.@@N@@
