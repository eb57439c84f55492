import JvmDerived
import JvmDerived.Pilot.@@N@@Statement
import JvmDerived.Pilot.@@N@@Code
set_option linter.unusedVariables false
set_option linter.unusedSimpArgs false
namespace Jvm.OwnFl
open Jvm.FP.Core
/-- the value of a double that is no NaN, counted in units of the least double -/
def own_z (x : UInt64) : Int := zval b64 (val64 x)
/-- how many of those units make 1 -/
def own_pw (n : Nat) : Nat := if h : n = 0 then 1 else 2 * own_pw (n - 1)
termination_by n
decreasing_by omega
theorem own_pw_eq (n : Nat) : own_pw n = 2 ^ n := by
  induction n with
  | zero => rw [own_pw]; rfl
  | succ k ih => rw [own_pw, dif_neg (Nat.succ_ne_zero k), Nat.add_sub_cancel, ih, Nat.pow_succ, Nat.mul_comm]
def own_U : Nat := own_pw 1074
theorem own_U_eq : own_U = 2 ^ 1074 := own_pw_eq 1074
theorem own_U_pos : (0 : Int) < (own_U : Int) := Int.natCast_pos.mpr (own_U_eq ▸ Nat.two_pow_pos 1074)
/-- a whole number of units that is a finite double -/
def own_rep (z : Int) : Prop := ∃ (c : Int) (j : Nat), z = c * ((2 ^ j : Nat) : Int) ∧ c.natAbs < 2 ^ 53 ∧ j ≤ 2045
theorem own_signed (c : Int) : signed (decide (c < 0)) c.natAbs = c := by
  unfold signed
  by_cases h : c < 0
  · simp only [h, decide_true, if_true]; omega
  · simp only [h, decide_false, Bool.false_eq_true, if_false]; omega
theorem own_datum {z : Int} (h : own_rep z) : ∃ s c q, Jvm.FP.Core.fits b64 (.fin s c q) ∧ zval b64 (.fin s c q) = z := by
  obtain ⟨c, j, rfl, hc, hj⟩ := h
  have hm : b64.qmax = 971 := by decide
  have hq := qmin_b64
  obtain ⟨c', q', h1, h2⟩ := round_exact good_b64 (decide (c < 0)) (c := c.natAbs) (q := b64.qmin + (j : Int)) hc (by omega) (by omega)
  refine ⟨_, c', q', h1 ▸ round_fits good_b64 _, ?_⟩
  show signed (decide (c < 0)) (inUnits c' q' b64.qmin) = _
  rw [h2]
  unfold inUnits
  rw [show (b64.qmin + (j : Int) - b64.qmin).toNat = j by omega, signed_mul, own_signed]
theorem own_top {z : Int} (h : own_rep z) : z.natAbs < 2 ^ 2098 := by
  obtain ⟨c, j, rfl, hc, hj⟩ := h
  rw [Int.natAbs_mul, Int.natAbs_natCast]
  have h1 : 2 ^ j ≤ 2 ^ 2045 := Nat.pow_le_pow_right (by decide) hj
  have h2 : c.natAbs * 2 ^ j ≤ c.natAbs * 2 ^ 2045 := Nat.mul_le_mul_left _ h1
  have h3 : c.natAbs * 2 ^ 2045 < 2 ^ 53 * 2 ^ 2045 := Nat.mul_lt_mul_of_pos_right hc (Nat.two_pow_pos _)
  have h4 : (2 : Nat) ^ 53 * 2 ^ 2045 = 2 ^ 2098 := (Nat.pow_add 2 53 2045).symm
  rw [h4] at h3
  exact Nat.lt_of_le_of_lt h2 h3
theorem own_fin_of {x : UInt64} {z : Int} (hn : val64 x ≠ .nan) (hz : own_z x = z) (h : own_rep z) : DFin x := by
  cases hv : val64 x with
  | nan => exact absurd hv hn
  | inf s =>
    exfalso
    have e : own_z x = signed s (b64.tails * 2 ^ (b64.exps - 2)) := by unfold own_z; rw [hv]; rfl
    have l := own_top h
    rw [← hz, e, natAbs_signed] at l
    have t : b64.tails * 2 ^ (b64.exps - 2) = 2 ^ 2098 := by
      rw [tails_b64, show b64.exps - 2 = 2046 by decide]
      exact (Nat.pow_add 2 52 2046).symm
    rw [t] at l
    exact Nat.lt_irrefl _ l
  | fin s c q => exact ⟨s, c, q, hv⟩
theorem own_round_nn (s : Bool) (c : Nat) (q : Int) : round b64 (.fin s c q) ≠ .nan := roundRatio_ne_nan b64 s c 1 q
theorem own_add {x y : UInt64} (hx : DFin x) (hy : DFin y) (h : own_rep (own_z x + own_z y)) : DFin (dadd x y) ∧ own_z (dadd x y) = own_z x + own_z y := by
  obtain ⟨s, c, q, fV, zV⟩ := own_datum h
  have e : own_z (dadd x y) = own_z x + own_z y := by
    show zval b64 (val64 (dadd x y)) = _
    rw [val64_dadd]
    have h1 := sum_le good_b64 hx hy (val64_fits x) (val64_fits y) fV (fun q => Datum.noConfusion q) (Int.le_of_eq zV.symm)
    have h2 := sum_ge good_b64 hx hy (val64_fits x) (val64_fits y) fV (fun q => Datum.noConfusion q) (Int.le_of_eq zV)
    rw [zV] at h1 h2
    exact Int.le_antisymm h1 h2
  refine ⟨own_fin_of ?_ e h, e⟩
  rw [val64_dadd]
  obtain ⟨s1, c1, q1, e1⟩ := hx
  obtain ⟨s2, c2, q2, e2⟩ := hy
  rw [e1, e2]
  exact own_round_nn _ _ _
theorem own_neg {x : UInt64} (hx : DFin x) : DFin (dneg x) ∧ own_z (dneg x) = - own_z x := by
  obtain ⟨s, c, q, e⟩ := hx
  constructor
  · exact ⟨!s, c, q, by rw [val64_dneg, e]; rfl⟩
  · show zval b64 (val64 (dneg x)) = _
    rw [val64_dneg, zval_negate]; rfl
theorem own_sub {x y : UInt64} (hx : DFin x) (hy : DFin y) (h : own_rep (own_z x - own_z y)) : DFin (dsub x y) ∧ own_z (dsub x y) = own_z x - own_z y := by
  obtain ⟨n1, n2⟩ := own_neg hy
  have e : own_z x + own_z (dneg y) = own_z x - own_z y := by rw [n2]; omega
  have k := own_add hx n1 (e ▸ h)
  rw [dsub_eq]
  exact ⟨k.1, k.2.trans e⟩
theorem own_signed_mul2 (s t : Bool) (a b : Nat) : signed (s != t) (a * b) = signed s a * signed t b := by
  cases s <;> cases t <;> simp [signed, Int.natCast_mul, Int.neg_mul, Int.mul_neg]
theorem own_mul {x y : UInt64} {z : Int} (hx : DFin x) (hy : DFin y) (h : own_rep z) (e : own_z x * own_z y = z * (own_U : Int)) : DFin (dmul x y) ∧ own_z (dmul x y) = z := by
  obtain ⟨s, c, q, e1⟩ := hx
  obtain ⟨t, d, r, e2⟩ := hy
  obtain ⟨s', c', q', fV, zV⟩ := own_datum h
  have f1 : Jvm.FP.Core.fits b64 (.fin s c q) := e1 ▸ val64_fits x
  have f2 : Jvm.FP.Core.fits b64 (.fin t d r) := e2 ▸ val64_fits y
  obtain ⟨p1, p2, p3⟩ := product_units f1 f2
  have u1 : own_z x = signed s (zmag b64 (.fin s c q)) := by unfold own_z; rw [e1]; rfl
  have u2 : own_z y = signed t (zmag b64 (.fin t d r)) := by unfold own_z; rw [e2]; rfl
  have hs : signed (s != t) (inUnits (c * d) (q + r) (2 * b64.qmin)) = zval b64 (.fin s' c' q') * ((2 ^ (b64.qmin - 2 * b64.qmin).toNat : Nat) : Int) := by
    rw [p3, own_signed_mul2, ← u1, ← u2, e, zV, show (b64.qmin - 2 * b64.qmin).toNat = 1074 by rw [qmin_b64]; rfl, own_U_eq]
  have hq := qmin_b64
  have k : own_z (dmul x y) = z := by
    show zval b64 (val64 (dmul x y)) = _
    rw [val64_dmul, e1, e2, p1]
    have h1 := zval_round_le good_b64 (s := (s != t)) (c := c * d) (q := q + r) (e0 := 2 * b64.qmin) fV (fun q => Datum.noConfusion q) (by omega) p2 (Int.le_of_eq hs)
    have h2 := zval_round_ge good_b64 (s := (s != t)) (c := c * d) (q := q + r) (e0 := 2 * b64.qmin) fV (fun q => Datum.noConfusion q) (by omega) p2 (Int.le_of_eq hs.symm)
    rw [zV] at h1 h2
    exact Int.le_antisymm h1 h2
  refine ⟨own_fin_of ?_ k h, k⟩
  rw [val64_dmul, e1, e2, p1]
  exact own_round_nn _ _ _
theorem own_nonneg {s : Bool} {m : Nat} (h : 0 ≤ signed s m) : signed s m = (m : Int) := by
  cases s
  · rfl
  · simp only [signed, if_true] at h ⊢; omega
theorem own_pos_sign {s : Bool} {m : Nat} (h : 0 < signed s m) : s = false := by
  cases s
  · rfl
  · simp only [signed, if_true] at h; omega
/-- the quotient of two finite doubles, the divisor not nought -/
theorem own_quot {x y : UInt64} {s t : Bool} {c d : Nat} {q r : Int} (e1 : val64 x = .fin s c q) (e2 : val64 y = .fin t d r) (hd : d ≠ 0) : val64 (ddiv x y) = roundRatio b64 (s != t) c d (q - r) := by
  rw [val64_ddiv, e1, e2]
  unfold quotient
  exact if_neg hd
theorem own_zmag_ne {t : Bool} {d : Nat} {r : Int} (h : signed t (zmag b64 (.fin t d r)) ≠ 0) : d ≠ 0 := by
  intro e
  apply h
  subst e
  show signed t (inUnits 0 r b64.qmin) = 0
  unfold inUnits
  rw [Nat.zero_mul]
  exact signed_zero t
theorem own_pow_shift {A B u v u' v' : Nat} (h : A * 2 ^ u = B * 2 ^ v) (he : u + v' = u' + v) : A * 2 ^ u' = B * 2 ^ v' := by
  refine Nat.eq_of_mul_eq_mul_right (Nat.two_pow_pos v) ?_
  calc A * 2 ^ u' * 2 ^ v = A * 2 ^ (u' + v) := by rw [Nat.mul_assoc, ← Nat.pow_add]
    _ = A * 2 ^ (u + v') := by rw [he]
    _ = A * 2 ^ u * 2 ^ v' := by rw [Nat.mul_assoc, ← Nat.pow_add]
    _ = B * 2 ^ v * 2 ^ v' := by rw [h]
    _ = B * 2 ^ v' * 2 ^ v := by ac_rfl
theorem own_zv {x : UInt64} {s : Bool} {c : Nat} {q : Int} (e : val64 x = .fin s c q) : own_z x = signed s (c * 2 ^ (q - b64.qmin).toNat) := by
  unfold own_z; rw [e]; rfl
theorem own_c0 {s : Bool} {c k : Nat} (h : signed s (c * 2 ^ k) = 0) : c = 0 := by
  rw [signed_eq_zero] at h
  rcases Nat.mul_eq_zero.mp h with h | h
  · exact h
  · have := Nat.two_pow_pos k; omega
theorem own_rr0 (s : Bool) (B : Nat) (e : Int) : zval b64 (roundRatio b64 s 0 B e) = 0 := by
  unfold roundRatio
  rw [if_pos rfl]
  show signed s (inUnits 0 b64.qmin b64.qmin) = 0
  unfold inUnits
  rw [Nat.zero_mul]
  exact signed_zero s
/-- two quotients of one value, none negative -/
theorem own_div_congr {x y x' y' : UInt64} (hx : DFin x) (hy : DFin y) (hx' : DFin x') (hy' : DFin y') (px : 0 ≤ own_z x) (py : 0 < own_z y) (px' : 0 ≤ own_z x') (py' : 0 < own_z y')
    (h : own_z x * own_z y' = own_z x' * own_z y) : own_z (ddiv x y) = own_z (ddiv x' y') := by
  obtain ⟨s, c, q, e1⟩ := hx
  obtain ⟨t, d, r, e2⟩ := hy
  obtain ⟨s', c', q', e1'⟩ := hx'
  obtain ⟨t', d', r', e2'⟩ := hy'
  have f1 : b64.qmin ≤ q := (e1 ▸ val64_fits x : Jvm.FP.Core.fits b64 (.fin s c q)).2.1
  have f2 : b64.qmin ≤ r := (e2 ▸ val64_fits y : Jvm.FP.Core.fits b64 (.fin t d r)).2.1
  have f1' : b64.qmin ≤ q' := (e1' ▸ val64_fits x' : Jvm.FP.Core.fits b64 (.fin s' c' q')).2.1
  have f2' : b64.qmin ≤ r' := (e2' ▸ val64_fits y' : Jvm.FP.Core.fits b64 (.fin t' d' r')).2.1
  rw [own_zv e2] at py h
  rw [own_zv e2'] at py' h
  rw [own_zv e1] at px h
  rw [own_zv e1'] at px' h
  have ht := own_pos_sign py
  have ht' := own_pos_sign py'
  have d0 : d ≠ 0 := fun z => by rw [z, Nat.zero_mul, signed_zero] at py; exact Int.lt_irrefl _ py
  have d0' : d' ≠ 0 := fun z => by rw [z, Nat.zero_mul, signed_zero] at py'; exact Int.lt_irrefl _ py'
  show zval b64 (val64 (ddiv x y)) = zval b64 (val64 (ddiv x' y'))
  rw [own_quot e1 e2 d0, own_quot e1' e2' d0']
  rw [own_nonneg px, own_nonneg px', own_nonneg (Int.le_of_lt py), own_nonneg (Int.le_of_lt py'), ← Int.natCast_mul, ← Int.natCast_mul] at h
  have hN : c * 2 ^ (q - b64.qmin).toNat * (d' * 2 ^ (r' - b64.qmin).toNat) = c' * 2 ^ (q' - b64.qmin).toNat * (d * 2 ^ (r - b64.qmin).toNat) := Int.natCast_inj.mp h
  have hP : c * d' * 2 ^ ((q - b64.qmin).toNat + (r' - b64.qmin).toNat) = c' * d * 2 ^ ((q' - b64.qmin).toNat + (r - b64.qmin).toNat) := by
    rw [Nat.pow_add, Nat.pow_add]
    calc c * d' * (2 ^ (q - b64.qmin).toNat * 2 ^ (r' - b64.qmin).toNat) = c * 2 ^ (q - b64.qmin).toNat * (d' * 2 ^ (r' - b64.qmin).toNat) := by ac_rfl
      _ = c' * 2 ^ (q' - b64.qmin).toNat * (d * 2 ^ (r - b64.qmin).toNat) := hN
      _ = c' * d * (2 ^ (q' - b64.qmin).toNat * 2 ^ (r - b64.qmin).toNat) := by ac_rfl
  have hC : c * d' * 2 ^ ((q - r) - (q' - r')).toNat = c' * d * 2 ^ ((q' - r') - (q - r)).toNat := own_pow_shift hP (by omega)
  by_cases hz : c = 0
  · have hz' : c' = 0 := by
      rw [hz, Nat.zero_mul, Nat.zero_mul] at hC
      rcases Nat.mul_eq_zero.mp hC.symm with k | k
      · rcases Nat.mul_eq_zero.mp k with k | k
        · exact k
        · exact absurd k d0
      · have := Nat.two_pow_pos ((q' - r') - (q - r)).toNat; omega
    rw [hz, hz', own_rr0, own_rr0]
  · have hz' : c' ≠ 0 := by
      intro k
      rw [k, Nat.zero_mul, Nat.zero_mul] at hC
      rcases Nat.mul_eq_zero.mp hC with k | k
      · rcases Nat.mul_eq_zero.mp k with k | k
        · exact hz k
        · exact d0' k
      · have := Nat.two_pow_pos ((q - r) - (q' - r')).toNat; omega
    have sx : s = false := by
      cases s
      · rfl
      · exfalso
        have := Nat.mul_pos (Nat.pos_of_ne_zero hz) (Nat.two_pow_pos (q - b64.qmin).toNat)
        simp only [signed, if_true] at px
        omega
    have sx' : s' = false := by
      cases s'
      · rfl
      · exfalso
        have := Nat.mul_pos (Nat.pos_of_ne_zero hz') (Nat.two_pow_pos (q' - b64.qmin).toNat)
        simp only [signed, if_true] at px'
        omega
    rw [ht, ht', sx, sx', roundRatio_congr (Nat.pos_of_ne_zero d0) (Nat.pos_of_ne_zero d0') hC]
/-- an exact quotient, nothing negative -/
theorem own_div {x y : UInt64} {z : Int} (hx : DFin x) (hy : DFin y) (px : 0 ≤ own_z x) (py : 0 < own_z y) (h : own_rep z) (e : own_z x * (own_U : Int) = z * own_z y) : DFin (ddiv x y) ∧ own_z (ddiv x y) = z := by
  obtain ⟨s, c, q, e1⟩ := hx
  obtain ⟨t, d, r, e2⟩ := hy
  obtain ⟨sv, cv, qv, fV, zV⟩ := own_datum h
  have f1 := (e1 ▸ val64_fits x : Jvm.FP.Core.fits b64 (.fin s c q))
  have f2 := (e2 ▸ val64_fits y : Jvm.FP.Core.fits b64 (.fin t d r))
  have pz : 0 ≤ z := by
    refine Int.not_lt.mp fun k => ?_
    have h1 : z * own_z y < 0 := Int.mul_neg_of_neg_of_pos k py
    have h2 : 0 ≤ own_z x * (own_U : Int) := Int.mul_nonneg px (Int.le_of_lt own_U_pos)
    omega
  have hq := qmin_b64
  have hm : b64.qmax = 971 := by decide
  have q1 := f1.2.1
  have q2 := f1.2.2.1
  have q3 := f2.2.1
  have q4 := f2.2.2.1
  have zM : (zmag b64 (.fin sv cv qv) : Int) = z := by
    have k : 0 ≤ signed sv (zmag b64 (.fin sv cv qv)) := by rw [show signed sv (zmag b64 (.fin sv cv qv)) = z from zV]; exact pz
    rw [← own_nonneg k]; exact zV
  rw [own_zv e1] at px e
  rw [own_zv e2] at py e
  have ht := own_pos_sign py
  have d0 : d ≠ 0 := fun k => by rw [k, Nat.zero_mul, signed_zero] at py; exact Int.lt_irrefl _ py
  rw [own_nonneg px, own_nonneg (Int.le_of_lt py), ← zM, ← Int.natCast_mul, ← Int.natCast_mul] at e
  have hN : c * 2 ^ (q - b64.qmin).toNat * own_U = zmag b64 (.fin sv cv qv) * (d * 2 ^ (r - b64.qmin).toNat) := Int.natCast_inj.mp e
  generalize hmv : zmag b64 (.fin sv cv qv) = mv at hN zM
  have hP : c * 2 ^ ((q - b64.qmin).toNat + 1074) = mv * d * 2 ^ (r - b64.qmin).toNat := by
    rw [Nat.pow_add, ← Nat.mul_assoc, ← own_U_eq, hN, Nat.mul_assoc]
  have hC : c * 2 ^ (q - r - (-4000)).toNat = mv * d * 2 ^ (b64.qmin - (-4000)).toNat := own_pow_shift hP (by omega)
  have hE : inUnits c (q - r) (-4000) = zmag b64 (.fin sv cv qv) * 2 ^ (b64.qmin - (-4000)).toNat * d := by
    unfold inUnits
    rw [hC, hmv]; exact Nat.mul_right_comm _ _ _
  have l1 := zmag_roundRatio_le good_b64 (s := (s != t)) (A := c) (B := d) (e := q - r) (e0 := -4000) (V := .fin sv cv qv) (Nat.pos_of_ne_zero d0) fV (fun q => Datum.noConfusion q) (by omega) (by omega) (Nat.le_of_eq hE)
  have l2 := zmag_roundRatio_ge good_b64 (s := (s != t)) (A := c) (B := d) (e := q - r) (e0 := -4000) (V := .fin sv cv qv) (Nat.pos_of_ne_zero d0) fV (by omega) (by omega) (Nat.le_of_eq hE.symm)
  have l3 : zmag b64 (roundRatio b64 (s != t) c d (q - r)) = mv := by rw [← hmv]; exact Nat.le_antisymm l1 l2
  have k : own_z (ddiv x y) = z := by
    show zval b64 (val64 (ddiv x y)) = z
    rw [own_quot e1 e2 d0]
    by_cases hz : c = 0
    · rw [hz, own_rr0]
      rw [hz, Nat.zero_mul] at hP
      have : mv * d * 2 ^ (r - b64.qmin).toNat = 0 := hP.symm
      rcases Nat.mul_eq_zero.mp this with k | k
      · rcases Nat.mul_eq_zero.mp k with k | k
        · rw [← zM, k]; rfl
        · exact absurd k d0
      · have := Nat.two_pow_pos (r - b64.qmin).toNat; omega
    · have sx : s = false := by
        cases s
        · rfl
        · exfalso
          have := Nat.mul_pos (Nat.pos_of_ne_zero hz) (Nat.two_pow_pos (q - b64.qmin).toNat)
          simp only [signed, if_true] at px
          omega
      unfold zval
      rw [sgn_roundRatio, l3, ht, sx, ← zM]
      rfl
  refine ⟨own_fin_of ?_ k h, k⟩
  rw [own_quot e1 e2 d0]
  exact roundRatio_ne_nan _ _ _ _ _
theorem own_pow_shift_le {A B u v u' v' : Nat} (h : A * 2 ^ u ≤ B * 2 ^ v) (he : u + v' = u' + v) : A * 2 ^ u' ≤ B * 2 ^ v' := by
  refine Nat.le_of_mul_le_mul_right ?_ (Nat.two_pow_pos v)
  calc A * 2 ^ u' * 2 ^ v = A * 2 ^ (u' + v) := by rw [Nat.mul_assoc, ← Nat.pow_add]
    _ = A * 2 ^ (u + v') := by rw [he]
    _ = A * 2 ^ u * 2 ^ v' := by rw [Nat.mul_assoc, ← Nat.pow_add]
    _ ≤ B * 2 ^ v * 2 ^ v' := Nat.mul_le_mul_right _ h
    _ = B * 2 ^ v' * 2 ^ v := by ac_rfl
/-- what a quotient that isn't negative is, by its magnitude -/
theorem own_div_mag {x y : UInt64} (hx : DFin x) (hy : DFin y) (px : 0 ≤ own_z x) (py : 0 < own_z y) : ∃ (c d : Nat) (q r : Int), b64.qmin ≤ q ∧ q ≤ b64.qmax ∧ b64.qmin ≤ r ∧ r ≤ b64.qmax ∧ 0 < d ∧
    own_z x = ((c * 2 ^ (q - b64.qmin).toNat : Nat) : Int) ∧ own_z y = ((d * 2 ^ (r - b64.qmin).toNat : Nat) : Int) ∧ val64 (ddiv x y) ≠ .nan ∧ ∃ s, own_z (ddiv x y) = (zmag b64 (roundRatio b64 s c d (q - r)) : Int) := by
  obtain ⟨s, c, q, e1⟩ := hx
  obtain ⟨t, d, r, e2⟩ := hy
  have f1 := (e1 ▸ val64_fits x : Jvm.FP.Core.fits b64 (.fin s c q))
  have f2 := (e2 ▸ val64_fits y : Jvm.FP.Core.fits b64 (.fin t d r))
  rw [own_zv e1] at px
  rw [own_zv e2] at py
  have d0 : d ≠ 0 := fun k => by rw [k, Nat.zero_mul, signed_zero] at py; exact Int.lt_irrefl _ py
  refine ⟨c, d, q, r, f1.2.1, f1.2.2.1, f2.2.1, f2.2.2.1, Nat.pos_of_ne_zero d0, by rw [own_zv e1, own_nonneg px], by rw [own_zv e2, own_nonneg (Int.le_of_lt py)], ?_, (s != t), ?_⟩
  · rw [own_quot e1 e2 d0]; exact roundRatio_ne_nan _ _ _ _ _
  · show zval b64 (val64 (ddiv x y)) = _
    rw [own_quot e1 e2 d0]
    by_cases hz : c = 0
    · have k : zval b64 (roundRatio b64 (s != t) c d (q - r)) = 0 := by rw [hz]; exact own_rr0 _ _ _
      have k2 := k
      unfold zval at k2
      rw [signed_eq_zero] at k2
      rw [k, k2]; rfl
    · have sx : s = false := by
        cases s
        · rfl
        · exfalso
          have := Nat.mul_pos (Nat.pos_of_ne_zero hz) (Nat.two_pow_pos (q - b64.qmin).toNat)
          simp only [signed, if_true] at px
          omega
      unfold zval
      rw [sgn_roundRatio, own_pos_sign py, sx]
      rfl
theorem own_div_nonneg {x y : UInt64} (hx : DFin x) (hy : DFin y) (px : 0 ≤ own_z x) (py : 0 < own_z y) : val64 (ddiv x y) ≠ .nan ∧ 0 ≤ own_z (ddiv x y) := by
  obtain ⟨c, d, q, r, -, -, -, -, -, -, -, h1, s, h2⟩ := own_div_mag hx hy px py
  exact ⟨h1, by rw [h2]; exact Int.natCast_nonneg _⟩
theorem own_mag_val {w : UInt64} (pw : 0 ≤ own_z w) : own_z w = (zmag b64 (val64 w) : Int) := own_nonneg pw
theorem own_div_le {x y w : UInt64} (hx : DFin x) (hy : DFin y) (px : 0 ≤ own_z x) (py : 0 < own_z y) (hw : val64 w ≠ .nan) (pw : 0 ≤ own_z w) (h : own_z x * (own_U : Int) ≤ own_z w * own_z y) : own_z (ddiv x y) ≤ own_z w := by
  obtain ⟨c, d, q, r, q1, q2, q3, q4, d0, zx, zy, -, s, zq⟩ := own_div_mag hx hy px py
  have hq := qmin_b64
  have hm : b64.qmax = 971 := by decide
  rw [zq, own_mag_val pw]
  rw [zx, zy, own_mag_val pw, ← Int.natCast_mul, ← Int.natCast_mul] at h
  have hN : c * 2 ^ (q - b64.qmin).toNat * own_U ≤ zmag b64 (val64 w) * (d * 2 ^ (r - b64.qmin).toNat) := Int.ofNat_le.mp h
  have hP : c * 2 ^ ((q - b64.qmin).toNat + 1074) ≤ zmag b64 (val64 w) * d * 2 ^ (r - b64.qmin).toNat := by
    rw [Nat.pow_add, ← Nat.mul_assoc, Nat.mul_assoc (zmag b64 (val64 w)), ← own_U_eq]
    exact hN
  have hC : c * 2 ^ (q - r - (-4000)).toNat ≤ zmag b64 (val64 w) * d * 2 ^ (b64.qmin - (-4000)).toNat := own_pow_shift_le hP (by omega)
  refine Int.ofNat_le.mpr (zmag_roundRatio_le good_b64 (e0 := -4000) d0 (val64_fits w) hw (by omega) (by omega) ?_)
  unfold inUnits
  exact Nat.le_trans hC (Nat.le_of_eq (Nat.mul_right_comm _ _ _))
theorem own_div_ge {x y w : UInt64} (hx : DFin x) (hy : DFin y) (px : 0 ≤ own_z x) (py : 0 < own_z y) (pw : 0 ≤ own_z w) (h : own_z w * own_z y ≤ own_z x * (own_U : Int)) : own_z w ≤ own_z (ddiv x y) := by
  obtain ⟨c, d, q, r, q1, q2, q3, q4, d0, zx, zy, -, s, zq⟩ := own_div_mag hx hy px py
  have hq := qmin_b64
  have hm : b64.qmax = 971 := by decide
  rw [zq, own_mag_val pw]
  rw [zx, zy, own_mag_val pw, ← Int.natCast_mul, ← Int.natCast_mul] at h
  have hN : zmag b64 (val64 w) * (d * 2 ^ (r - b64.qmin).toNat) ≤ c * 2 ^ (q - b64.qmin).toNat * own_U := Int.ofNat_le.mp h
  have hP : zmag b64 (val64 w) * d * 2 ^ (r - b64.qmin).toNat ≤ c * 2 ^ ((q - b64.qmin).toNat + 1074) := by
    rw [Nat.pow_add, ← Nat.mul_assoc, Nat.mul_assoc (zmag b64 (val64 w)), ← own_U_eq]
    exact hN
  have hC : zmag b64 (val64 w) * d * 2 ^ (b64.qmin - (-4000)).toNat ≤ c * 2 ^ (q - r - (-4000)).toNat := own_pow_shift_le hP (by omega)
  refine Int.ofNat_le.mpr (zmag_roundRatio_ge good_b64 (e0 := -4000) d0 (val64_fits w) (by omega) (by omega) ?_)
  unfold inUnits
  exact Nat.le_trans (Nat.le_of_eq (Nat.mul_right_comm _ _ _)) hC
/-- x is finite and is n / 2^k -/
def own_is (x : UInt64) (n : Int) (k : Nat) : Prop := DFin x ∧ own_z x * ((2 ^ k : Nat) : Int) = n * (own_U : Int)
theorem own_two_pos (k : Nat) : (0 : Int) < ((2 ^ k : Nat) : Int) := Int.natCast_pos.mpr (Nat.two_pow_pos k)
theorem own_U_split {k : Nat} (hk : k ≤ 1074) : (own_U : Int) = ((2 ^ (1074 - k) : Nat) : Int) * ((2 ^ k : Nat) : Int) := by
  rw [← Int.natCast_mul, ← Nat.pow_add, Nat.sub_add_cancel hk, own_U_eq]
theorem own_rep_of {z n : Int} {k : Nat} (h : z * ((2 ^ k : Nat) : Int) = n * (own_U : Int)) (hn : n.natAbs < 2 ^ 53) (hk : k ≤ 1074) : z = n * ((2 ^ (1074 - k) : Nat) : Int) ∧ own_rep z := by
  have e : z = n * ((2 ^ (1074 - k) : Nat) : Int) := by
    rw [own_U_split hk, ← Int.mul_assoc] at h
    exact Int.eq_of_mul_eq_mul_right (Int.ne_of_gt (own_two_pos k)) h
  exact ⟨e, n, 1074 - k, e, hn, by omega⟩
theorem own_is.nn {x : UInt64} {n : Int} {k : Nat} (h : own_is x n k) : Jvm.Free.Fl.NoNaN64 x := Jvm.Free.Fl.noNaN64_no.mpr ((notNaN_iff x).mpr (by obtain ⟨⟨s, c, q, e⟩, -⟩ := h; rw [e]; exact fun q => Datum.noConfusion q))
theorem own_is.fin {x : UInt64} {n : Int} {k : Nat} (h : own_is x n k) : Jvm.Free.Fl.Fin64 x := Jvm.Free.Fl.fin64_core.mpr h.1
theorem own_is.val {x : UInt64} {n : Int} {k : Nat} (h : own_is x n k) : val64 x ≠ .nan := by obtain ⟨⟨s, c, q, e⟩, -⟩ := h; rw [e]; exact fun q => Datum.noConfusion q
theorem own_is.add {x y : UInt64} {n m : Int} {k : Nat} (hx : own_is x n k) (hy : own_is y m k) (hn : (n + m).natAbs < 2 ^ 53) (hk : k ≤ 1074) : own_is (dadd x y) (n + m) k := by
  have e : (own_z x + own_z y) * ((2 ^ k : Nat) : Int) = (n + m) * (own_U : Int) := by rw [Int.add_mul, Int.add_mul, hx.2, hy.2]
  obtain ⟨a, b⟩ := own_add hx.1 hy.1 (own_rep_of e hn hk).2
  exact ⟨a, by rw [b]; exact e⟩
theorem own_is.sub {x y : UInt64} {n m : Int} {k : Nat} (hx : own_is x n k) (hy : own_is y m k) (hn : (n - m).natAbs < 2 ^ 53) (hk : k ≤ 1074) : own_is (dsub x y) (n - m) k := by
  have e : (own_z x - own_z y) * ((2 ^ k : Nat) : Int) = (n - m) * (own_U : Int) := by rw [Int.sub_mul, Int.sub_mul, hx.2, hy.2]
  obtain ⟨a, b⟩ := own_sub hx.1 hy.1 (own_rep_of e hn hk).2
  exact ⟨a, by rw [b]; exact e⟩
theorem own_is.mul {x y : UInt64} {n m : Int} {k j : Nat} (hx : own_is x n k) (hy : own_is y m j) (hn : (n * m).natAbs < 2 ^ 53) (hk : k + j ≤ 1074) : own_is (dmul x y) (n * m) (k + j) := by
  have hp : ((2 ^ (k + j) : Nat) : Int) = ((2 ^ k : Nat) : Int) * ((2 ^ j : Nat) : Int) := by rw [Nat.pow_add, Int.natCast_mul]
  have e0 : n * m * ((2 ^ (1074 - (k + j)) : Nat) : Int) * ((2 ^ (k + j) : Nat) : Int) = n * m * (own_U : Int) := by rw [own_U_split hk, Int.mul_assoc]
  have e : own_z x * own_z y = n * m * ((2 ^ (1074 - (k + j)) : Nat) : Int) * (own_U : Int) := by
    refine Int.eq_of_mul_eq_mul_right (Int.ne_of_gt (own_two_pos (k + j))) ?_
    calc own_z x * own_z y * ((2 ^ (k + j) : Nat) : Int) = (own_z x * ((2 ^ k : Nat) : Int)) * (own_z y * ((2 ^ j : Nat) : Int)) := by rw [hp]; ac_rfl
      _ = (n * (own_U : Int)) * (m * (own_U : Int)) := by rw [hx.2, hy.2]
      _ = n * m * (own_U : Int) * (own_U : Int) := by ac_rfl
      _ = n * m * ((2 ^ (1074 - (k + j)) : Nat) : Int) * ((2 ^ (k + j) : Nat) : Int) * (own_U : Int) := by rw [e0]
      _ = n * m * ((2 ^ (1074 - (k + j)) : Nat) : Int) * (own_U : Int) * ((2 ^ (k + j) : Nat) : Int) := by ac_rfl
  obtain ⟨a, b⟩ := own_mul hx.1 hy.1 (own_rep_of e0 hn hk).2 e
  exact ⟨a, by rw [b]; exact e0⟩
theorem own_is.div {x y : UInt64} {n m q : Int} {k j i : Nat} (hx : own_is x n k) (hy : own_is y m j) (pn : 0 ≤ n) (pm : 0 < m) (hq : q.natAbs < 2 ^ 53) (hi : i ≤ 1074)
    (h : n * ((2 ^ j : Nat) : Int) * ((2 ^ i : Nat) : Int) = q * m * ((2 ^ k : Nat) : Int)) : own_is (ddiv x y) q i := by
  have e0 : q * ((2 ^ (1074 - i) : Nat) : Int) * ((2 ^ i : Nat) : Int) = q * (own_U : Int) := by rw [own_U_split hi, Int.mul_assoc]
  have px : 0 ≤ own_z x := by
    refine Int.not_lt.mp fun z => ?_
    have h1 := Int.mul_neg_of_neg_of_pos z (own_two_pos k)
    have h2 := Int.mul_nonneg pn (Int.le_of_lt own_U_pos)
    rw [hx.2] at h1; omega
  have py : 0 < own_z y := by
    refine Int.not_le.mp fun z => ?_
    have h1 : own_z y * ((2 ^ j : Nat) : Int) ≤ 0 := Int.mul_nonpos_of_nonpos_of_nonneg z (Int.le_of_lt (own_two_pos j))
    have h2 := Int.mul_pos pm own_U_pos
    rw [hy.2] at h1; omega
  have e : own_z x * (own_U : Int) = q * ((2 ^ (1074 - i) : Nat) : Int) * own_z y := by
    refine Int.eq_of_mul_eq_mul_right (Int.ne_of_gt (Int.mul_pos (Int.mul_pos (own_two_pos k) (own_two_pos j)) (own_two_pos i))) ?_
    calc own_z x * (own_U : Int) * (((2 ^ k : Nat) : Int) * ((2 ^ j : Nat) : Int) * ((2 ^ i : Nat) : Int)) = (own_z x * ((2 ^ k : Nat) : Int)) * (own_U : Int) * ((2 ^ j : Nat) : Int) * ((2 ^ i : Nat) : Int) := by ac_rfl
      _ = (n * ((2 ^ j : Nat) : Int) * ((2 ^ i : Nat) : Int)) * (own_U : Int) * (own_U : Int) := by rw [hx.2]; ac_rfl
      _ = (q * (own_U : Int)) * (m * (own_U : Int)) * ((2 ^ k : Nat) : Int) := by rw [h]; ac_rfl
      _ = (q * ((2 ^ (1074 - i) : Nat) : Int) * ((2 ^ i : Nat) : Int)) * (own_z y * ((2 ^ j : Nat) : Int)) * ((2 ^ k : Nat) : Int) := by rw [e0, hy.2]
      _ = q * ((2 ^ (1074 - i) : Nat) : Int) * own_z y * (((2 ^ k : Nat) : Int) * ((2 ^ j : Nat) : Int) * ((2 ^ i : Nat) : Int)) := by ac_rfl
  obtain ⟨a, b⟩ := own_div hx.1 hy.1 px py (own_rep_of e0 hq hi).2 e
  exact ⟨a, by rw [b]; exact e0⟩
theorem own_is.scale {x : UInt64} {n : Int} {k : Nat} (h : own_is x n k) (i : Nat) : own_is x (n * ((2 ^ i : Nat) : Int)) (k + i) := by
  refine ⟨h.1, ?_⟩
  rw [Nat.pow_add, Int.natCast_mul, ← Int.mul_assoc, h.2]; ac_rfl
theorem own_is.l2d {a : Int64} (h : a.toInt.natAbs < 2 ^ 53) : own_is (l2d a) a.toInt 0 := by
  refine ⟨l2d_fin a, ?_⟩
  have hs : Small53 a := by unfold Small53; omega
  have e := whole_zval good_b64 (val64_fits (Jvm.FP.Core.l2d a)) (l2d_whole hs)
  rw [show (-b64.qmin).toNat = 1074 by rw [qmin_b64]; rfl] at e
  show zval b64 (val64 (Jvm.FP.Core.l2d a)) * _ = _
  rw [e, Nat.pow_zero]
  show _ * (1 : Int) = _
  rw [Int.mul_one, own_U_eq]
theorem own_is.i2d (a : Int32) : own_is (i2d a) a.toInt 0 := by
  rw [i2d_l2d]
  have h := own_is.l2d (a := a.toInt64) (by rw [Int32.toInt_toInt64]; have := a.le_toInt; have := a.toInt_lt; omega)
  rw [Int32.toInt_toInt64] at h
  exact h
theorem own_is.lt_iff {x y : UInt64} {n m : Int} {k : Nat} (hx : own_is x n k) (hy : own_is y m k) : own_z x < own_z y ↔ n < m := by
  have h1 : own_z x * ((2 ^ k : Nat) : Int) < own_z y * ((2 ^ k : Nat) : Int) ↔ own_z x < own_z y := Int.mul_lt_mul_right (own_two_pos k)
  rw [← h1, hx.2, hy.2]
  exact Int.mul_lt_mul_right own_U_pos
theorem own_is.eq_iff {x y : UInt64} {n m : Int} {k : Nat} (hx : own_is x n k) (hy : own_is y m k) : own_z x = own_z y ↔ n = m := by
  have h1 := hx.lt_iff hy
  have h2 := hy.lt_iff hx
  omega
theorem own_cmp_eq {x y : UInt64} (h1 : val64 x ≠ .nan) (h2 : val64 y ≠ .nan) (h : own_z x = own_z y) (o : ClassFile.CmpOp) : Jvm.Op.cmpValue (FP.dcmp x y) o = 0 := by
  rw [show FP.dcmp x y = some .eq from dcmp_eq.mpr ⟨h1, h2, h⟩]; rfl
theorem own_cmp_lt {x y : UInt64} (h1 : val64 x ≠ .nan) (h2 : val64 y ≠ .nan) (h : own_z x < own_z y) (o : ClassFile.CmpOp) : Jvm.Op.cmpValue (FP.dcmp x y) o = -1 := by
  rw [show FP.dcmp x y = some .lt from dcmp_lt.mpr ⟨h1, h2, h⟩]; rfl
theorem own_cmp_gt {x y : UInt64} (h1 : val64 x ≠ .nan) (h2 : val64 y ≠ .nan) (h : own_z y < own_z x) (o : ClassFile.CmpOp) : Jvm.Op.cmpValue (FP.dcmp x y) o = 1 := by
  rw [show FP.dcmp x y = some .gt from dcmp_gt.mpr ⟨h1, h2, h⟩]; rfl
theorem own_cmp_ge {x y : UInt64} (h1 : val64 x ≠ .nan) (h2 : val64 y ≠ .nan) (h : own_z y ≤ own_z x) (o : ClassFile.CmpOp) : ¬ Jvm.Op.cmpValue (FP.dcmp x y) o < 0 := by
  by_cases e : own_z x = own_z y
  · rw [own_cmp_eq h1 h2 e]; decide
  · rw [own_cmp_gt h1 h2 (by omega)]; decide
theorem own_cmp_le {x y : UInt64} (h1 : val64 x ≠ .nan) (h2 : val64 y ≠ .nan) (h : own_z x ≤ own_z y) (o : ClassFile.CmpOp) : ¬ 0 < Jvm.Op.cmpValue (FP.dcmp x y) o := by
  by_cases e : own_z x = own_z y
  · rw [own_cmp_eq h1 h2 e]; decide
  · rw [own_cmp_lt h1 h2 (by omega)]; decide
theorem own_nn_of {x : UInt64} (h : val64 x ≠ .nan) : Jvm.Free.Fl.NoNaN64 x := Jvm.Free.Fl.noNaN64_no.mpr ((notNaN_iff x).mpr h)
theorem own_is.nonneg {x : UInt64} {n : Int} {k : Nat} (hx : own_is x n k) (pn : 0 ≤ n) : 0 ≤ own_z x := by
  refine Int.not_lt.mp fun z => ?_
  have h1 := Int.mul_neg_of_neg_of_pos z (own_two_pos k)
  have h2 := Int.mul_nonneg pn (Int.le_of_lt own_U_pos)
  rw [hx.2] at h1; omega
theorem own_is.pos {x : UInt64} {n : Int} {k : Nat} (hx : own_is x n k) (pn : 0 < n) : 0 < own_z x := by
  refine Int.not_le.mp fun z => ?_
  have h1 : own_z x * ((2 ^ k : Nat) : Int) ≤ 0 := Int.mul_nonpos_of_nonpos_of_nonneg z (Int.le_of_lt (own_two_pos k))
  have h2 := Int.mul_pos pn own_U_pos
  rw [hx.2] at h1; omega
theorem own_is.z {x : UInt64} {n : Int} (hx : own_is x n 0) : own_z x = n * (own_U : Int) := by
  have h := hx.2
  rw [Nat.pow_zero] at h
  exact (Int.mul_one _).symm.trans h
theorem own_is.ceq {x y : UInt64} {n m : Int} {k : Nat} (hx : own_is x n k) (hy : own_is y m k) (h : n = m) (o : ClassFile.CmpOp) : Jvm.Op.cmpValue (FP.dcmp x y) o = 0 := own_cmp_eq hx.val hy.val ((hx.eq_iff hy).mpr h) o
theorem own_is.clt {x y : UInt64} {n m : Int} {k : Nat} (hx : own_is x n k) (hy : own_is y m k) (h : n < m) (o : ClassFile.CmpOp) : Jvm.Op.cmpValue (FP.dcmp x y) o = -1 := own_cmp_lt hx.val hy.val ((hx.lt_iff hy).mpr h) o
theorem own_is.cgt {x y : UInt64} {n m : Int} {k : Nat} (hx : own_is x n k) (hy : own_is y m k) (h : m < n) (o : ClassFile.CmpOp) : Jvm.Op.cmpValue (FP.dcmp x y) o = 1 := own_cmp_gt hx.val hy.val ((hy.lt_iff hx).mpr h) o
theorem own_is.zero : own_is FP.dconst0 0 0 := by
  refine ⟨⟨_, _, _, val64_dconst0⟩, ?_⟩
  show zval b64 (val64 dconst0) * _ = _
  rw [val64_dconst0, Int.zero_mul]
  show signed false (0 * _) * _ = _
  rw [Nat.zero_mul, signed_zero, Int.zero_mul]
theorem own_is.one : own_is FP.dconst1 1 0 := by
  refine ⟨⟨_, _, _, val64_dconst1⟩, ?_⟩
  show zval b64 (val64 dconst1) * _ = _
  rw [val64_dconst1, own_U_eq]
  decide +kernel
end Jvm.OwnFl
namespace Jvm.Pilot.@@N@@
open Jvm Jvm.ClassFile Sem Op Lib Jvm.Free Jvm.Stand Jvm.LawKit Jvm.RoadKit Bundle Jvm.Free.Fl Jvm.OwnFl Jvm.Pilot.@@N@@.Jvm.D
theorem own_hw {a0 : Array Value} {Z : State} (hw : ∀ d ∈ tables_1, d.before a0 Z = true) (i : Nat) {d : Jvm.Cond} (h : tables_1[i]? = some d) : d.before a0 Z = true := hw d (List.mem_of_getElem? h)
section OwnKit
variable {p : Program} {l : Launch} {e : Env} {R : Room} {s : State} {m : MethodId} {args : Array Value} {below : List Frame} {meth : Method} {c : Code} {T : State} {locs : List Loc} {cells slots : Nat}
/-- from the state t the run goes on to a return of which Q holds -/
def own_Go (p : Program) (e : Env) (below : List Frame) (Fe : Outcome → State → List Loc → Prop) (Q : Option Value → Heap → List Loc → Prop) (t : State) : Prop :=
  ∃ s₂ o, Steps p.tables e below t s₂ ∧ s₂.status = .running ∧ Ended s₂ below o ∧ ∃ v L, o = .returned v ∧ Q v s₂.heap L ∧ Fe o s₂ L
theorem own_st {Fe : Outcome → State → List Loc → Prop} {Q : Option Value → Heap → List Loc → Prop} {t t' : State} (h : ∀ target, Steps p.tables e below t' target → Steps p.tables e below t target) (k : own_Go p e below Fe Q t') : own_Go p e below Fe Q t := by
  obtain ⟨s₂, o, h1, r⟩ := k
  exact ⟨s₂, o, h _ h1, r⟩
theorem own_tr {Fe : Outcome → State → List Loc → Prop} {Q : Option Value → Heap → List Loc → Prop} {t t' : State} (h : Steps p.tables e below t t') (k : own_Go p e below Fe Q t') : own_Go p e below Fe Q t := own_st (fun _ q => h.trans q) k
theorem own_ret (X : Stand p l e R s m args below meth c T locs cells slots) {K N : Nat} {Q : Option Value → Heap → List Loc → Prop} {t : State} (v : Option Value) (hv : meth.sig.returnType = none → v = none) (hlocks : meth.locks = false) (hK : cells ≤ K) (hN : slots ≤ N) (hQ : Q v T.heap locs)
    (hs : ∀ fs : List Frame, (∀ (f : JFrame) (acts : List Action), f.method = m → f.locked = none → f.entered = [] → (doReturn e (T.setTop f) acts v).1 = T.setFrames fs) → Steps p.tables e below t (T.setFrames fs)) : own_Go p e below (fun o u L => FrameEnd s o u L K N) Q t := by
  obtain ⟨fs, hr, hrun, hended, hW, hsame⟩ := X.leave (v := v) hv
  exact ⟨_, _, hs fs hr, hrun, hended, _, _, rfl, hQ, ⟨_, rfl⟩, hW, hsame.mono hK hN⟩
theorem own_retI (X : Stand p l e R s m args below meth c T locs cells slots) (hx : p.tables.exec = Jvm.exec) {pc : Nat} {Ls : Array Slot} {z : Int32} {rest : List Value} (hret : meth.sig.returnType = some .int) (hd : decode c.code pc = .ok (.ireturn, 1)) {fs : List Frame}
    (hl : ∀ (f : JFrame) (acts : List Action), f.method = m → f.locked = none → f.entered = [] → (doReturn e (T.setTop f) acts (some (.int z))).1 = T.setFrames fs) : Steps p.tables e below (T.setTop (mkF m pc Ls (.int z :: rest))) (T.setFrames fs) :=
  retOut X hx hret rfl (Or.inl ⟨rfl, Or.inl rfl, _, rfl⟩) hd hl
theorem own_retD (X : Stand p l e R s m args below meth c T locs cells slots) (hx : p.tables.exec = Jvm.exec) {pc : Nat} {Ls : Array Slot} {z : UInt64} {rest : List Value} (hret : meth.sig.returnType = some .double) (hd : decode c.code pc = .ok (.dreturn, 1)) {fs : List Frame}
    (hl : ∀ (f : JFrame) (acts : List Action), f.method = m → f.locked = none → f.entered = [] → (doReturn e (T.setTop f) acts (some (.double z))).1 = T.setFrames fs) : Steps p.tables e below (T.setTop (mkF m pc Ls (.double z :: rest))) (T.setFrames fs) :=
  retOut X hx hret rfl (Or.inr (Or.inr (Or.inl ⟨rfl, rfl, _, rfl⟩))) hd hl
theorem own_retJ (X : Stand p l e R s m args below meth c T locs cells slots) (hx : p.tables.exec = Jvm.exec) {pc : Nat} {Ls : Array Slot} {z : Int64} {rest : List Value} (hret : meth.sig.returnType = some .long) (hd : decode c.code pc = .ok (.lreturn, 1)) {fs : List Frame}
    (hl : ∀ (f : JFrame) (acts : List Action), f.method = m → f.locked = none → f.entered = [] → (doReturn e (T.setTop f) acts (some (.long z))).1 = T.setFrames fs) : Steps p.tables e below (T.setTop (mkF m pc Ls (.long z :: rest))) (T.setFrames fs) :=
  retOut X hx hret rfl (Or.inr (Or.inl ⟨rfl, rfl, _, rfl⟩)) hd hl
theorem own_retR (X : Stand p l e R s m args below meth c T locs cells slots) (hx : p.tables.exec = Jvm.exec) {pc : Nat} {Ls : Array Slot} {w : Value} {rest : List Value} {t : FieldType} (hret : meth.sig.returnType = some t) (ht : t.isReference = true) (hw : w.isRef = true) (hd : decode c.code pc = .ok (.areturn, 1)) {fs : List Frame}
    (hl : ∀ (f : JFrame) (acts : List Action), f.method = m → f.locked = none → f.entered = [] → (doReturn e (T.setTop f) acts (some w)).1 = T.setFrames fs) : Steps p.tables e below (T.setTop (mkF m pc Ls (w :: rest))) (T.setFrames fs) :=
  retOut X hx hret (by cases t <;> first | (cases ht; done) | rfl) (Or.inr (Or.inr (Or.inr (Or.inr ⟨rfl, ht, hw⟩)))) hd hl
theorem own_staKeep {Z : State} {h h' : Heap} {C n d : String} {v : Value} {ws : List Addr} (F : Sta Z h C n d v) (K : Keep h h' ws) (hn : ∀ x ∈ ws, ∀ cell : Cell, h[x]? = some cell → cell.vm.isStatics = false) : Sta Z h' C n d v := by
  obtain ⟨cf, i, k, f, st, cell, h1, h2, h3, h4, h5, h6, h7⟩ := F
  exact ⟨cf, i, k, f, st, cell, h1, h2, h3, h4, K.2.1 st cell h5 (fun q => by have := hn st q cell h5; rw [h6] at this; cases this), h6, h7⟩
end OwnKit
section OwnSteps
variable {p : Program} {l : Launch} {e : Env} {R : Room} {s : State} {m : MethodId} {args : Array Value} {below : List Frame} {meth : Method} {c : Code} {T : State} {locs : List Loc} {cells slots : Nat} {Fe : Outcome → State → List Loc → Prop} {Q : Option Value → Heap → List Loc → Prop} {pc : Nat} {Ls : Array Slot} {st : List Value} {Z : State} {a0 : Array Value} {h : Heap}
theorem own_iload (X : Stand p l e R s m args below meth c T locs cells slots) (hx : p.tables.exec = Jvm.exec) {i : Nat} {v : Int32} (pc' : Nat) (hp : pc + 2 = pc') (hd : decode c.code pc = .ok (.iload i, 2)) (hl : Ls[i]? = some (.val (.int v))) (k : own_Go p e below Fe Q (T.setTop (mkF m pc' Ls (.int v :: st)))) : own_Go p e below Fe Q (T.setTop (mkF m pc Ls (st))) := by
  subst hp
  exact own_st (fun _ hr => XS.iload X.here hx rfl hd hl hr) k
theorem own_iloadN (X : Stand p l e R s m args below meth c T locs cells slots) (hx : p.tables.exec = Jvm.exec) {i : Fin 4} {v : Int32} (pc' : Nat) (hp : pc + 1 = pc') (hd : decode c.code pc = .ok (.iload_n i, 1)) (hl : Ls[i.val]? = some (.val (.int v))) (k : own_Go p e below Fe Q (T.setTop (mkF m pc' Ls (.int v :: st)))) : own_Go p e below Fe Q (T.setTop (mkF m pc Ls (st))) := by
  subst hp
  exact own_st (fun _ hr => XS.iloadN X.here hx rfl hd hl hr) k
theorem own_istore (X : Stand p l e R s m args below meth c T locs cells slots) (hx : p.tables.exec = Jvm.exec) {i : Nat} {x : Int32} (pc' : Nat) (hp : pc + 2 = pc') (hd : decode c.code pc = .ok (.istore i, 2)) (Ls' : Array Slot) (hl : storeLocals Ls i (.int x) = some Ls') (k : own_Go p e below Fe Q (T.setTop (mkF m pc' Ls' (st)))) : own_Go p e below Fe Q (T.setTop (mkF m pc Ls (.int x :: st))) := by
  subst hp
  exact own_st (fun _ hr => XS.istore X.here hx rfl hd rfl hl hr) k
theorem own_istoreN (X : Stand p l e R s m args below meth c T locs cells slots) (hx : p.tables.exec = Jvm.exec) {i : Fin 4} {x : Int32} (pc' : Nat) (hp : pc + 1 = pc') (hd : decode c.code pc = .ok (.istore_n i, 1)) (Ls' : Array Slot) (hl : storeLocals Ls i.val (.int x) = some Ls') (k : own_Go p e below Fe Q (T.setTop (mkF m pc' Ls' (st)))) : own_Go p e below Fe Q (T.setTop (mkF m pc Ls (.int x :: st))) := by
  subst hp
  exact own_st (fun _ hr => XS.istoreN X.here hx rfl hd rfl hl hr) k
theorem own_lload (X : Stand p l e R s m args below meth c T locs cells slots) (hx : p.tables.exec = Jvm.exec) {i : Nat} {v : Int64} (pc' : Nat) (hp : pc + 2 = pc') (hd : decode c.code pc = .ok (.lload i, 2)) (hl : Ls[i]? = some (.val (.long v))) (k : own_Go p e below Fe Q (T.setTop (mkF m pc' Ls (.long v :: st)))) : own_Go p e below Fe Q (T.setTop (mkF m pc Ls (st))) := by
  subst hp
  exact own_st (fun _ hr => XS.lload X.here hx rfl hd hl hr) k
theorem own_lloadN (X : Stand p l e R s m args below meth c T locs cells slots) (hx : p.tables.exec = Jvm.exec) {i : Fin 4} {v : Int64} (pc' : Nat) (hp : pc + 1 = pc') (hd : decode c.code pc = .ok (.lload_n i, 1)) (hl : Ls[i.val]? = some (.val (.long v))) (k : own_Go p e below Fe Q (T.setTop (mkF m pc' Ls (.long v :: st)))) : own_Go p e below Fe Q (T.setTop (mkF m pc Ls (st))) := by
  subst hp
  exact own_st (fun _ hr => XS.lloadN X.here hx rfl hd hl hr) k
theorem own_lstore (X : Stand p l e R s m args below meth c T locs cells slots) (hx : p.tables.exec = Jvm.exec) {i : Nat} {x : Int64} (pc' : Nat) (hp : pc + 2 = pc') (hd : decode c.code pc = .ok (.lstore i, 2)) (Ls' : Array Slot) (hl : storeLocals Ls i (.long x) = some Ls') (k : own_Go p e below Fe Q (T.setTop (mkF m pc' Ls' (st)))) : own_Go p e below Fe Q (T.setTop (mkF m pc Ls (.long x :: st))) := by
  subst hp
  exact own_st (fun _ hr => XS.lstore X.here hx rfl hd rfl hl hr) k
theorem own_lstoreN (X : Stand p l e R s m args below meth c T locs cells slots) (hx : p.tables.exec = Jvm.exec) {i : Fin 4} {x : Int64} (pc' : Nat) (hp : pc + 1 = pc') (hd : decode c.code pc = .ok (.lstore_n i, 1)) (Ls' : Array Slot) (hl : storeLocals Ls i.val (.long x) = some Ls') (k : own_Go p e below Fe Q (T.setTop (mkF m pc' Ls' (st)))) : own_Go p e below Fe Q (T.setTop (mkF m pc Ls (.long x :: st))) := by
  subst hp
  exact own_st (fun _ hr => XS.lstoreN X.here hx rfl hd rfl hl hr) k
theorem own_dload (X : Stand p l e R s m args below meth c T locs cells slots) (hx : p.tables.exec = Jvm.exec) {i : Nat} {v : UInt64} (pc' : Nat) (hp : pc + 2 = pc') (hd : decode c.code pc = .ok (.dload i, 2)) (hl : Ls[i]? = some (.val (.double v))) (k : own_Go p e below Fe Q (T.setTop (mkF m pc' Ls (.double v :: st)))) : own_Go p e below Fe Q (T.setTop (mkF m pc Ls (st))) := by
  subst hp
  exact own_st (fun _ hr => XS.dload X.here hx rfl hd hl hr) k
theorem own_dloadN (X : Stand p l e R s m args below meth c T locs cells slots) (hx : p.tables.exec = Jvm.exec) {i : Fin 4} {v : UInt64} (pc' : Nat) (hp : pc + 1 = pc') (hd : decode c.code pc = .ok (.dload_n i, 1)) (hl : Ls[i.val]? = some (.val (.double v))) (k : own_Go p e below Fe Q (T.setTop (mkF m pc' Ls (.double v :: st)))) : own_Go p e below Fe Q (T.setTop (mkF m pc Ls (st))) := by
  subst hp
  exact own_st (fun _ hr => XS.dloadN X.here hx rfl hd hl hr) k
theorem own_dstore (X : Stand p l e R s m args below meth c T locs cells slots) (hx : p.tables.exec = Jvm.exec) {i : Nat} {x : UInt64} (pc' : Nat) (hp : pc + 2 = pc') (hd : decode c.code pc = .ok (.dstore i, 2)) (Ls' : Array Slot) (hl : storeLocals Ls i (.double x) = some Ls') (k : own_Go p e below Fe Q (T.setTop (mkF m pc' Ls' (st)))) : own_Go p e below Fe Q (T.setTop (mkF m pc Ls (.double x :: st))) := by
  subst hp
  exact own_st (fun _ hr => XS.dstore X.here hx rfl hd rfl hl hr) k
theorem own_dstoreN (X : Stand p l e R s m args below meth c T locs cells slots) (hx : p.tables.exec = Jvm.exec) {i : Fin 4} {x : UInt64} (pc' : Nat) (hp : pc + 1 = pc') (hd : decode c.code pc = .ok (.dstore_n i, 1)) (Ls' : Array Slot) (hl : storeLocals Ls i.val (.double x) = some Ls') (k : own_Go p e below Fe Q (T.setTop (mkF m pc' Ls' (st)))) : own_Go p e below Fe Q (T.setTop (mkF m pc Ls (.double x :: st))) := by
  subst hp
  exact own_st (fun _ hr => XS.dstoreN X.here hx rfl hd rfl hl hr) k
theorem own_aload (X : Stand p l e R s m args below meth c T locs cells slots) (hx : p.tables.exec = Jvm.exec) {i : Nat} {v : Value} (pc' : Nat) (hp : pc + 2 = pc') (hd : decode c.code pc = .ok (.aload i, 2)) (hl : Ls[i]? = some (.val v)) (hv : v.isRef = true) (k : own_Go p e below Fe Q (T.setTop (mkF m pc' Ls (v :: st)))) : own_Go p e below Fe Q (T.setTop (mkF m pc Ls (st))) := by
  subst hp
  exact own_st (fun _ hr => XS.aload X.here hx rfl hd hl hv hr) k
theorem own_aloadN (X : Stand p l e R s m args below meth c T locs cells slots) (hx : p.tables.exec = Jvm.exec) {i : Fin 4} {v : Value} (pc' : Nat) (hp : pc + 1 = pc') (hd : decode c.code pc = .ok (.aload_n i, 1)) (hl : Ls[i.val]? = some (.val v)) (hv : v.isRef = true) (k : own_Go p e below Fe Q (T.setTop (mkF m pc' Ls (v :: st)))) : own_Go p e below Fe Q (T.setTop (mkF m pc Ls (st))) := by
  subst hp
  exact own_st (fun _ hr => XS.aloadN X.here hx rfl hd hl hv hr) k
theorem own_astore (X : Stand p l e R s m args below meth c T locs cells slots) (hx : p.tables.exec = Jvm.exec) {i : Nat} {x : Value} (pc' : Nat) (hp : pc + 2 = pc') (hd : decode c.code pc = .ok (.astore i, 2)) (hv : x.isRef = true) (Ls' : Array Slot) (hl : storeLocals Ls i x = some Ls') (k : own_Go p e below Fe Q (T.setTop (mkF m pc' Ls' (st)))) : own_Go p e below Fe Q (T.setTop (mkF m pc Ls (x :: st))) := by
  subst hp
  exact own_st (fun _ hr => XS.astore X.here hx rfl hd rfl hv hl hr) k
theorem own_astoreN (X : Stand p l e R s m args below meth c T locs cells slots) (hx : p.tables.exec = Jvm.exec) {i : Fin 4} {x : Value} (pc' : Nat) (hp : pc + 1 = pc') (hd : decode c.code pc = .ok (.astore_n i, 1)) (hv : x.isRef = true) (Ls' : Array Slot) (hl : storeLocals Ls i.val x = some Ls') (k : own_Go p e below Fe Q (T.setTop (mkF m pc' Ls' (st)))) : own_Go p e below Fe Q (T.setTop (mkF m pc Ls (x :: st))) := by
  subst hp
  exact own_st (fun _ hr => XS.astoreN X.here hx rfl hd rfl hv hl hr) k
theorem own_iconst (X : Stand p l e R s m args below meth c T locs cells slots) (hx : p.tables.exec = Jvm.exec) {i : Int} (pc' : Nat) (hp : pc + 1 = pc') (hd : decode c.code pc = .ok (.iconst i, 1)) (z : Int32) (hz : Int32.ofInt i = z) (k : own_Go p e below Fe Q (T.setTop (mkF m pc' Ls (.int z :: st)))) : own_Go p e below Fe Q (T.setTop (mkF m pc Ls (st))) := by
  subst hp; subst hz
  exact own_st (fun _ hr => XS.iconst X.here hx rfl hd hr) k
theorem own_bipush (X : Stand p l e R s m args below meth c T locs cells slots) (hx : p.tables.exec = Jvm.exec) {i : Int} (pc' : Nat) (hp : pc + 2 = pc') (hd : decode c.code pc = .ok (.bipush i, 2)) (z : Int32) (hz : (Int8.ofInt i).toInt32 = z) (k : own_Go p e below Fe Q (T.setTop (mkF m pc' Ls (.int z :: st)))) : own_Go p e below Fe Q (T.setTop (mkF m pc Ls (st))) := by
  subst hp; subst hz
  exact own_st (fun _ hr => XS.bipush X.here hx rfl hd hr) k
theorem own_sipush (X : Stand p l e R s m args below meth c T locs cells slots) (hx : p.tables.exec = Jvm.exec) {i : Int} (pc' : Nat) (hp : pc + 3 = pc') (hd : decode c.code pc = .ok (.sipush i, 3)) (z : Int32) (hz : (Int16.ofInt i).toInt32 = z) (k : own_Go p e below Fe Q (T.setTop (mkF m pc' Ls (.int z :: st)))) : own_Go p e below Fe Q (T.setTop (mkF m pc Ls (st))) := by
  subst hp; subst hz
  exact own_st (fun _ hr => XS.sipush X.here hx rfl hd hr) k
theorem own_lconst (X : Stand p l e R s m args below meth c T locs cells slots) (hx : p.tables.exec = Jvm.exec) {i : Fin 2} (pc' : Nat) (hp : pc + 1 = pc') (hd : decode c.code pc = .ok (.lconst i, 1)) (z : Int64) (hz : Int64.ofNat i = z) (k : own_Go p e below Fe Q (T.setTop (mkF m pc' Ls (.long z :: st)))) : own_Go p e below Fe Q (T.setTop (mkF m pc Ls (st))) := by
  subst hp; subst hz
  exact own_st (fun _ hr => XS.lconst X.here hx rfl hd hr) k
theorem own_dconst0 (X : Stand p l e R s m args below meth c T locs cells slots) (hx : p.tables.exec = Jvm.exec)  (pc' : Nat) (hp : pc + 1 = pc') (hd : decode c.code pc = .ok (.dconst 0, 1))  (k : own_Go p e below Fe Q (T.setTop (mkF m pc' Ls (.double FP.dconst0 :: st)))) : own_Go p e below Fe Q (T.setTop (mkF m pc Ls (st))) := by
  subst hp
  exact own_st (fun _ hr => XS.dconst0 X.here hx rfl hd rfl hr) k
theorem own_dconst1 (X : Stand p l e R s m args below meth c T locs cells slots) (hx : p.tables.exec = Jvm.exec)  (pc' : Nat) (hp : pc + 1 = pc') (hd : decode c.code pc = .ok (.dconst 1, 1))  (k : own_Go p e below Fe Q (T.setTop (mkF m pc' Ls (.double FP.dconst1 :: st)))) : own_Go p e below Fe Q (T.setTop (mkF m pc Ls (st))) := by
  subst hp
  exact own_st (fun _ hr => XS.dconst1 X.here hx rfl hd rfl hr) k
theorem own_aconst_null (X : Stand p l e R s m args below meth c T locs cells slots) (hx : p.tables.exec = Jvm.exec)  (pc' : Nat) (hp : pc + 1 = pc') (hd : decode c.code pc = .ok (.aconst_null, 1))  (k : own_Go p e below Fe Q (T.setTop (mkF m pc' Ls (.null :: st)))) : own_Go p e below Fe Q (T.setTop (mkF m pc Ls (st))) := by
  subst hp
  exact own_st (fun _ hr => XS.aconstNull X.here hx rfl hd hr) k
theorem own_iadd (X : Stand p l e R s m args below meth c T locs cells slots) (hx : p.tables.exec = Jvm.exec) {x y : Int32} (pc' : Nat) (hp : pc + 1 = pc') (hd : decode c.code pc = .ok (.iadd, 1)) (z : Int32) (hz : x + y = z) (k : own_Go p e below Fe Q (T.setTop (mkF m pc' Ls (.int z :: st)))) : own_Go p e below Fe Q (T.setTop (mkF m pc Ls (.int y :: .int x :: st))) := by
  subst hp; subst hz
  exact own_st (fun _ hr => XS.iadd X.here hx rfl hd rfl hr) k
theorem own_isub (X : Stand p l e R s m args below meth c T locs cells slots) (hx : p.tables.exec = Jvm.exec) {x y : Int32} (pc' : Nat) (hp : pc + 1 = pc') (hd : decode c.code pc = .ok (.isub, 1)) (z : Int32) (hz : x - y = z) (k : own_Go p e below Fe Q (T.setTop (mkF m pc' Ls (.int z :: st)))) : own_Go p e below Fe Q (T.setTop (mkF m pc Ls (.int y :: .int x :: st))) := by
  subst hp; subst hz
  exact own_st (fun _ hr => XS.isub X.here hx rfl hd rfl hr) k
theorem own_imul (X : Stand p l e R s m args below meth c T locs cells slots) (hx : p.tables.exec = Jvm.exec) {x y : Int32} (pc' : Nat) (hp : pc + 1 = pc') (hd : decode c.code pc = .ok (.imul, 1)) (z : Int32) (hz : x * y = z) (k : own_Go p e below Fe Q (T.setTop (mkF m pc' Ls (.int z :: st)))) : own_Go p e below Fe Q (T.setTop (mkF m pc Ls (.int y :: .int x :: st))) := by
  subst hp; subst hz
  exact own_st (fun _ hr => XS.imul X.here hx rfl hd rfl hr) k
theorem own_iand (X : Stand p l e R s m args below meth c T locs cells slots) (hx : p.tables.exec = Jvm.exec) {x y : Int32} (pc' : Nat) (hp : pc + 1 = pc') (hd : decode c.code pc = .ok (.iand, 1)) (z : Int32) (hz : x &&& y = z) (k : own_Go p e below Fe Q (T.setTop (mkF m pc' Ls (.int z :: st)))) : own_Go p e below Fe Q (T.setTop (mkF m pc Ls (.int y :: .int x :: st))) := by
  subst hp; subst hz
  exact own_st (fun _ hr => XS.iand X.here hx rfl hd rfl hr) k
theorem own_ior (X : Stand p l e R s m args below meth c T locs cells slots) (hx : p.tables.exec = Jvm.exec) {x y : Int32} (pc' : Nat) (hp : pc + 1 = pc') (hd : decode c.code pc = .ok (.ior, 1)) (z : Int32) (hz : x ||| y = z) (k : own_Go p e below Fe Q (T.setTop (mkF m pc' Ls (.int z :: st)))) : own_Go p e below Fe Q (T.setTop (mkF m pc Ls (.int y :: .int x :: st))) := by
  subst hp; subst hz
  exact own_st (fun _ hr => XS.ior X.here hx rfl hd rfl hr) k
theorem own_ixor (X : Stand p l e R s m args below meth c T locs cells slots) (hx : p.tables.exec = Jvm.exec) {x y : Int32} (pc' : Nat) (hp : pc + 1 = pc') (hd : decode c.code pc = .ok (.ixor, 1)) (z : Int32) (hz : x ^^^ y = z) (k : own_Go p e below Fe Q (T.setTop (mkF m pc' Ls (.int z :: st)))) : own_Go p e below Fe Q (T.setTop (mkF m pc Ls (.int y :: .int x :: st))) := by
  subst hp; subst hz
  exact own_st (fun _ hr => XS.ixor X.here hx rfl hd rfl hr) k
theorem own_ineg (X : Stand p l e R s m args below meth c T locs cells slots) (hx : p.tables.exec = Jvm.exec) {x : Int32} (pc' : Nat) (hp : pc + 1 = pc') (hd : decode c.code pc = .ok (.ineg, 1)) (z : Int32) (hz : -x = z) (k : own_Go p e below Fe Q (T.setTop (mkF m pc' Ls (.int z :: st)))) : own_Go p e below Fe Q (T.setTop (mkF m pc Ls (.int x :: st))) := by
  subst hp; subst hz
  exact own_st (fun _ hr => XS.ineg X.here hx rfl hd rfl hr) k
theorem own_idiv (X : Stand p l e R s m args below meth c T locs cells slots) (hx : p.tables.exec = Jvm.exec) {x y : Int32} (pc' : Nat) (hp : pc + 1 = pc') (hd : decode c.code pc = .ok (.idiv, 1)) (hy : y ≠ 0) (z : Int32) (hz : x / y = z) (k : own_Go p e below Fe Q (T.setTop (mkF m pc' Ls (.int z :: st)))) : own_Go p e below Fe Q (T.setTop (mkF m pc Ls (.int y :: .int x :: st))) := by
  subst hp; subst hz
  exact own_st (fun _ hr => XS.idiv X.here hx rfl hd rfl hy hr) k
theorem own_ladd (X : Stand p l e R s m args below meth c T locs cells slots) (hx : p.tables.exec = Jvm.exec) {x y : Int64} (pc' : Nat) (hp : pc + 1 = pc') (hd : decode c.code pc = .ok (.ladd, 1)) (z : Int64) (hz : x + y = z) (k : own_Go p e below Fe Q (T.setTop (mkF m pc' Ls (.long z :: st)))) : own_Go p e below Fe Q (T.setTop (mkF m pc Ls (.long y :: .long x :: st))) := by
  subst hp; subst hz
  exact own_st (fun _ hr => XS.ladd X.here hx rfl hd rfl hr) k
theorem own_lsub (X : Stand p l e R s m args below meth c T locs cells slots) (hx : p.tables.exec = Jvm.exec) {x y : Int64} (pc' : Nat) (hp : pc + 1 = pc') (hd : decode c.code pc = .ok (.lsub, 1)) (z : Int64) (hz : x - y = z) (k : own_Go p e below Fe Q (T.setTop (mkF m pc' Ls (.long z :: st)))) : own_Go p e below Fe Q (T.setTop (mkF m pc Ls (.long y :: .long x :: st))) := by
  subst hp; subst hz
  exact own_st (fun _ hr => XS.lsub X.here hx rfl hd rfl hr) k
theorem own_lmul (X : Stand p l e R s m args below meth c T locs cells slots) (hx : p.tables.exec = Jvm.exec) {x y : Int64} (pc' : Nat) (hp : pc + 1 = pc') (hd : decode c.code pc = .ok (.lmul, 1)) (z : Int64) (hz : x * y = z) (k : own_Go p e below Fe Q (T.setTop (mkF m pc' Ls (.long z :: st)))) : own_Go p e below Fe Q (T.setTop (mkF m pc Ls (.long y :: .long x :: st))) := by
  subst hp; subst hz
  exact own_st (fun _ hr => XS.lmul X.here hx rfl hd rfl hr) k
theorem own_land (X : Stand p l e R s m args below meth c T locs cells slots) (hx : p.tables.exec = Jvm.exec) {x y : Int64} (pc' : Nat) (hp : pc + 1 = pc') (hd : decode c.code pc = .ok (.land, 1)) (z : Int64) (hz : x &&& y = z) (k : own_Go p e below Fe Q (T.setTop (mkF m pc' Ls (.long z :: st)))) : own_Go p e below Fe Q (T.setTop (mkF m pc Ls (.long y :: .long x :: st))) := by
  subst hp; subst hz
  exact own_st (fun _ hr => XS.land X.here hx rfl hd rfl hr) k
theorem own_lor (X : Stand p l e R s m args below meth c T locs cells slots) (hx : p.tables.exec = Jvm.exec) {x y : Int64} (pc' : Nat) (hp : pc + 1 = pc') (hd : decode c.code pc = .ok (.lor, 1)) (z : Int64) (hz : x ||| y = z) (k : own_Go p e below Fe Q (T.setTop (mkF m pc' Ls (.long z :: st)))) : own_Go p e below Fe Q (T.setTop (mkF m pc Ls (.long y :: .long x :: st))) := by
  subst hp; subst hz
  exact own_st (fun _ hr => XS.lor X.here hx rfl hd rfl hr) k
theorem own_lxor (X : Stand p l e R s m args below meth c T locs cells slots) (hx : p.tables.exec = Jvm.exec) {x y : Int64} (pc' : Nat) (hp : pc + 1 = pc') (hd : decode c.code pc = .ok (.lxor, 1)) (z : Int64) (hz : x ^^^ y = z) (k : own_Go p e below Fe Q (T.setTop (mkF m pc' Ls (.long z :: st)))) : own_Go p e below Fe Q (T.setTop (mkF m pc Ls (.long y :: .long x :: st))) := by
  subst hp; subst hz
  exact own_st (fun _ hr => XS.lxor X.here hx rfl hd rfl hr) k
theorem own_lneg (X : Stand p l e R s m args below meth c T locs cells slots) (hx : p.tables.exec = Jvm.exec) {x : Int64} (pc' : Nat) (hp : pc + 1 = pc') (hd : decode c.code pc = .ok (.lneg, 1)) (z : Int64) (hz : -x = z) (k : own_Go p e below Fe Q (T.setTop (mkF m pc' Ls (.long z :: st)))) : own_Go p e below Fe Q (T.setTop (mkF m pc Ls (.long x :: st))) := by
  subst hp; subst hz
  exact own_st (fun _ hr => XS.lneg X.here hx rfl hd rfl hr) k
theorem own_ldiv (X : Stand p l e R s m args below meth c T locs cells slots) (hx : p.tables.exec = Jvm.exec) {x y : Int64} (pc' : Nat) (hp : pc + 1 = pc') (hd : decode c.code pc = .ok (.ldiv, 1)) (hy : y ≠ 0) (z : Int64) (hz : x / y = z) (k : own_Go p e below Fe Q (T.setTop (mkF m pc' Ls (.long z :: st)))) : own_Go p e below Fe Q (T.setTop (mkF m pc Ls (.long y :: .long x :: st))) := by
  subst hp; subst hz
  exact own_st (fun _ hr => XS.ldiv X.here hx rfl hd rfl hy hr) k
theorem own_irem (X : Stand p l e R s m args below meth c T locs cells slots) (hx : p.tables.exec = Jvm.exec) {x y : Int32} (pc' : Nat) (hp : pc + 1 = pc') (hd : decode c.code pc = .ok (.irem, 1)) (hy : y ≠ 0) (z : Int32) (hz : x % y = z) (k : own_Go p e below Fe Q (T.setTop (mkF m pc' Ls (.int z :: st)))) : own_Go p e below Fe Q (T.setTop (mkF m pc Ls (.int y :: .int x :: st))) := by
  subst hp; subst hz
  exact own_st (fun _ hr => iremM (g := mkF m pc Ls (.int y :: .int x :: st)) X hx rfl hd rfl hy hr) k
theorem own_lrem (X : Stand p l e R s m args below meth c T locs cells slots) (hx : p.tables.exec = Jvm.exec) {x y : Int64} (pc' : Nat) (hp : pc + 1 = pc') (hd : decode c.code pc = .ok (.lrem, 1)) (hy : y ≠ 0) (z : Int64) (hz : x % y = z) (k : own_Go p e below Fe Q (T.setTop (mkF m pc' Ls (.long z :: st)))) : own_Go p e below Fe Q (T.setTop (mkF m pc Ls (.long y :: .long x :: st))) := by
  subst hp; subst hz
  exact own_st (fun _ hr => XS.lrem X.here hx rfl hd rfl hy (by rw [lrem_mod]; exact hr)) k
theorem own_ishl (X : Stand p l e R s m args below meth c T locs cells slots) (hx : p.tables.exec = Jvm.exec) {x : Int32} {y : Int32} (pc' : Nat) (hp : pc + 1 = pc') (hd : decode c.code pc = .ok (.ishl, 1)) (z : Int32) (hz : x <<< (y &&& 31) = z) (k : own_Go p e below Fe Q (T.setTop (mkF m pc' Ls (.int z :: st)))) : own_Go p e below Fe Q (T.setTop (mkF m pc Ls (.int y :: .int x :: st))) := by
  subst hp; subst hz
  exact own_st (fun _ hr => XS.ishl X.here hx rfl hd rfl hr) k
theorem own_ishr (X : Stand p l e R s m args below meth c T locs cells slots) (hx : p.tables.exec = Jvm.exec) {x : Int32} {y : Int32} (pc' : Nat) (hp : pc + 1 = pc') (hd : decode c.code pc = .ok (.ishr, 1)) (z : Int32) (hz : x >>> (y &&& 31) = z) (k : own_Go p e below Fe Q (T.setTop (mkF m pc' Ls (.int z :: st)))) : own_Go p e below Fe Q (T.setTop (mkF m pc Ls (.int y :: .int x :: st))) := by
  subst hp; subst hz
  exact own_st (fun _ hr => XS.ishr X.here hx rfl hd rfl hr) k
theorem own_iushr (X : Stand p l e R s m args below meth c T locs cells slots) (hx : p.tables.exec = Jvm.exec) {x : Int32} {y : Int32} (pc' : Nat) (hp : pc + 1 = pc') (hd : decode c.code pc = .ok (.iushr, 1)) (z : Int32) (hz : (x.toUInt32 >>> (y &&& 31).toUInt32).toInt32 = z) (k : own_Go p e below Fe Q (T.setTop (mkF m pc' Ls (.int z :: st)))) : own_Go p e below Fe Q (T.setTop (mkF m pc Ls (.int y :: .int x :: st))) := by
  subst hp; subst hz
  exact own_st (fun _ hr => XS.iushr X.here hx rfl hd rfl hr) k
theorem own_lshl (X : Stand p l e R s m args below meth c T locs cells slots) (hx : p.tables.exec = Jvm.exec) {x : Int64} {y : Int32} (pc' : Nat) (hp : pc + 1 = pc') (hd : decode c.code pc = .ok (.lshl, 1)) (z : Int64) (hz : x <<< (y &&& 0x3f).toInt64 = z) (k : own_Go p e below Fe Q (T.setTop (mkF m pc' Ls (.long z :: st)))) : own_Go p e below Fe Q (T.setTop (mkF m pc Ls (.int y :: .long x :: st))) := by
  subst hp; subst hz
  exact own_st (fun _ hr => XS.lshl X.here hx rfl hd rfl hr) k
theorem own_lshr (X : Stand p l e R s m args below meth c T locs cells slots) (hx : p.tables.exec = Jvm.exec) {x : Int64} {y : Int32} (pc' : Nat) (hp : pc + 1 = pc') (hd : decode c.code pc = .ok (.lshr, 1)) (z : Int64) (hz : x >>> (y &&& 0x3f).toInt64 = z) (k : own_Go p e below Fe Q (T.setTop (mkF m pc' Ls (.long z :: st)))) : own_Go p e below Fe Q (T.setTop (mkF m pc Ls (.int y :: .long x :: st))) := by
  subst hp; subst hz
  exact own_st (fun _ hr => XS.lshr X.here hx rfl hd rfl hr) k
theorem own_lushr (X : Stand p l e R s m args below meth c T locs cells slots) (hx : p.tables.exec = Jvm.exec) {x : Int64} {y : Int32} (pc' : Nat) (hp : pc + 1 = pc') (hd : decode c.code pc = .ok (.lushr, 1)) (z : Int64) (hz : (x.toUInt64 >>> (y &&& 0x3f).toInt64.toUInt64).toInt64 = z) (k : own_Go p e below Fe Q (T.setTop (mkF m pc' Ls (.long z :: st)))) : own_Go p e below Fe Q (T.setTop (mkF m pc Ls (.int y :: .long x :: st))) := by
  subst hp; subst hz
  exact own_st (fun _ hr => XS.lushr X.here hx rfl hd rfl hr) k
theorem own_i2l (X : Stand p l e R s m args below meth c T locs cells slots) (hx : p.tables.exec = Jvm.exec) {x : Int32} (pc' : Nat) (hp : pc + 1 = pc') (hd : decode c.code pc = .ok (.i2l, 1)) (z : Int64) (hz : x.toInt64 = z) (k : own_Go p e below Fe Q (T.setTop (mkF m pc' Ls (.long z :: st)))) : own_Go p e below Fe Q (T.setTop (mkF m pc Ls (.int x :: st))) := by
  subst hp; subst hz
  exact own_st (fun _ hr => XS.i2l X.here hx rfl hd rfl hr) k
theorem own_l2i (X : Stand p l e R s m args below meth c T locs cells slots) (hx : p.tables.exec = Jvm.exec) {x : Int64} (pc' : Nat) (hp : pc + 1 = pc') (hd : decode c.code pc = .ok (.l2i, 1)) (z : Int32) (hz : x.toInt32 = z) (k : own_Go p e below Fe Q (T.setTop (mkF m pc' Ls (.int z :: st)))) : own_Go p e below Fe Q (T.setTop (mkF m pc Ls (.long x :: st))) := by
  subst hp; subst hz
  exact own_st (fun _ hr => XS.l2i X.here hx rfl hd rfl hr) k
theorem own_i2b (X : Stand p l e R s m args below meth c T locs cells slots) (hx : p.tables.exec = Jvm.exec) {x : Int32} (pc' : Nat) (hp : pc + 1 = pc') (hd : decode c.code pc = .ok (.i2b, 1)) (z : Int32) (hz : x.toInt8.toInt32 = z) (k : own_Go p e below Fe Q (T.setTop (mkF m pc' Ls (.int z :: st)))) : own_Go p e below Fe Q (T.setTop (mkF m pc Ls (.int x :: st))) := by
  subst hp; subst hz
  exact own_st (fun _ hr => XS.i2b X.here hx rfl hd rfl hr) k
theorem own_i2s (X : Stand p l e R s m args below meth c T locs cells slots) (hx : p.tables.exec = Jvm.exec) {x : Int32} (pc' : Nat) (hp : pc + 1 = pc') (hd : decode c.code pc = .ok (.i2s, 1)) (z : Int32) (hz : x.toInt16.toInt32 = z) (k : own_Go p e below Fe Q (T.setTop (mkF m pc' Ls (.int z :: st)))) : own_Go p e below Fe Q (T.setTop (mkF m pc Ls (.int x :: st))) := by
  subst hp; subst hz
  exact own_st (fun _ hr => XS.i2s X.here hx rfl hd rfl hr) k
theorem own_i2c (X : Stand p l e R s m args below meth c T locs cells slots) (hx : p.tables.exec = Jvm.exec) {x : Int32} (pc' : Nat) (hp : pc + 1 = pc') (hd : decode c.code pc = .ok (.i2c, 1)) (z : Int32) (hz : x.toUInt32.toUInt16.toUInt32.toInt32 = z) (k : own_Go p e below Fe Q (T.setTop (mkF m pc' Ls (.int z :: st)))) : own_Go p e below Fe Q (T.setTop (mkF m pc Ls (.int x :: st))) := by
  subst hp; subst hz
  exact own_st (fun _ hr => XS.i2c X.here hx rfl hd rfl hr) k
theorem own_lcmp (X : Stand p l e R s m args below meth c T locs cells slots) (hx : p.tables.exec = Jvm.exec) {x y : Int64} (pc' : Nat) (hp : pc + 1 = pc') (hd : decode c.code pc = .ok (.lcmp, 1)) (z : Int32) (hz : lcmpW x y = z) (k : own_Go p e below Fe Q (T.setTop (mkF m pc' Ls (.int z :: st)))) : own_Go p e below Fe Q (T.setTop (mkF m pc Ls (.long y :: .long x :: st))) := by
  subst hp; subst hz
  exact own_st (fun _ hr => XS.lcmp X.here hx rfl hd rfl hr) k
theorem own_i2d (X : Stand p l e R s m args below meth c T locs cells slots) (hx : p.tables.exec = Jvm.exec) {x : Int32} (pc' : Nat) (hp : pc + 1 = pc') (hd : decode c.code pc = .ok (.i2d, 1)) (z : UInt64) (hz : FP.i2d x = z) (k : own_Go p e below Fe Q (T.setTop (mkF m pc' Ls (.double z :: st)))) : own_Go p e below Fe Q (T.setTop (mkF m pc Ls (.int x :: st))) := by
  subst hp
  exact own_st (fun _ hr => XS.i2dS X.here hx rfl hd rfl hz hr) k
theorem own_l2d (X : Stand p l e R s m args below meth c T locs cells slots) (hx : p.tables.exec = Jvm.exec) {x : Int64} (pc' : Nat) (hp : pc + 1 = pc') (hd : decode c.code pc = .ok (.l2d, 1)) (z : UInt64) (hz : FP.l2d x = z) (k : own_Go p e below Fe Q (T.setTop (mkF m pc' Ls (.double z :: st)))) : own_Go p e below Fe Q (T.setTop (mkF m pc Ls (.long x :: st))) := by
  subst hp
  exact own_st (fun _ hr => XS.l2dS X.here hx rfl hd rfl hz hr) k
theorem own_d2i (X : Stand p l e R s m args below meth c T locs cells slots) (hx : p.tables.exec = Jvm.exec) {x : UInt64} (pc' : Nat) (hp : pc + 1 = pc') (hd : decode c.code pc = .ok (.d2i, 1)) (z : Int32) (hz : FP.d2i x = z) (k : own_Go p e below Fe Q (T.setTop (mkF m pc' Ls (.int z :: st)))) : own_Go p e below Fe Q (T.setTop (mkF m pc Ls (.double x :: st))) := by
  subst hp
  exact own_st (fun _ hr => XS.d2iS X.here hx rfl hd rfl hz hr) k
theorem own_d2l (X : Stand p l e R s m args below meth c T locs cells slots) (hx : p.tables.exec = Jvm.exec) {x : UInt64} (pc' : Nat) (hp : pc + 1 = pc') (hd : decode c.code pc = .ok (.d2l, 1)) (z : Int64) (hz : FP.d2l x = z) (k : own_Go p e below Fe Q (T.setTop (mkF m pc' Ls (.long z :: st)))) : own_Go p e below Fe Q (T.setTop (mkF m pc Ls (.double x :: st))) := by
  subst hp
  exact own_st (fun _ hr => XS.d2lS X.here hx rfl hd rfl hz hr) k
theorem own_dneg (X : Stand p l e R s m args below meth c T locs cells slots) (hx : p.tables.exec = Jvm.exec) {x : UInt64} (pc' : Nat) (hp : pc + 1 = pc') (hd : decode c.code pc = .ok (.dneg, 1)) (z : UInt64) (hz : FP.dneg x = z) (k : own_Go p e below Fe Q (T.setTop (mkF m pc' Ls (.double z :: st)))) : own_Go p e below Fe Q (T.setTop (mkF m pc Ls (.double x :: st))) := by
  subst hp
  exact own_st (fun _ hr => XS.dnegS X.here hx rfl hd rfl hz hr) k
theorem own_dadd (X : Stand p l e R s m args below meth c T locs cells slots) (hx : p.tables.exec = Jvm.exec) {x y : UInt64} (pc' : Nat) (hp : pc + 1 = pc') (hd : decode c.code pc = .ok (.dadd, 1)) (hn : NoNaN64 (FP.dadd x y)) (z : UInt64) (hz : FP.dadd x y = z) (k : own_Go p e below Fe Q (T.setTop (mkF m pc' Ls (.double z :: st)))) : own_Go p e below Fe Q (T.setTop (mkF m pc Ls (.double y :: .double x :: st))) := by
  subst hp
  exact own_st (fun _ hr => XS.daddS X.here hx rfl hd rfl hn hz hr) k
theorem own_dsub (X : Stand p l e R s m args below meth c T locs cells slots) (hx : p.tables.exec = Jvm.exec) {x y : UInt64} (pc' : Nat) (hp : pc + 1 = pc') (hd : decode c.code pc = .ok (.dsub, 1)) (hn : NoNaN64 (FP.dsub x y)) (z : UInt64) (hz : FP.dsub x y = z) (k : own_Go p e below Fe Q (T.setTop (mkF m pc' Ls (.double z :: st)))) : own_Go p e below Fe Q (T.setTop (mkF m pc Ls (.double y :: .double x :: st))) := by
  subst hp
  exact own_st (fun _ hr => XS.dsubS X.here hx rfl hd rfl hn hz hr) k
theorem own_dmul (X : Stand p l e R s m args below meth c T locs cells slots) (hx : p.tables.exec = Jvm.exec) {x y : UInt64} (pc' : Nat) (hp : pc + 1 = pc') (hd : decode c.code pc = .ok (.dmul, 1)) (hn : NoNaN64 (FP.dmul x y)) (z : UInt64) (hz : FP.dmul x y = z) (k : own_Go p e below Fe Q (T.setTop (mkF m pc' Ls (.double z :: st)))) : own_Go p e below Fe Q (T.setTop (mkF m pc Ls (.double y :: .double x :: st))) := by
  subst hp
  exact own_st (fun _ hr => XS.dmulS X.here hx rfl hd rfl hn hz hr) k
theorem own_ddiv (X : Stand p l e R s m args below meth c T locs cells slots) (hx : p.tables.exec = Jvm.exec) {x y : UInt64} (pc' : Nat) (hp : pc + 1 = pc') (hd : decode c.code pc = .ok (.ddiv, 1)) (hn : NoNaN64 (FP.ddiv x y)) (z : UInt64) (hz : FP.ddiv x y = z) (k : own_Go p e below Fe Q (T.setTop (mkF m pc' Ls (.double z :: st)))) : own_Go p e below Fe Q (T.setTop (mkF m pc Ls (.double y :: .double x :: st))) := by
  subst hp
  exact own_st (fun _ hr => XS.ddivS X.here hx rfl hd rfl hn hz hr) k
theorem own_dcmp (X : Stand p l e R s m args below meth c T locs cells slots) (hx : p.tables.exec = Jvm.exec) {o : CmpOp} {x y : UInt64} (pc' : Nat) (hp : pc + 1 = pc') (hd : decode c.code pc = .ok (.dcmp o, 1)) (z : Int32) (hz : cmpValue (FP.dcmp x y) o = z) (k : own_Go p e below Fe Q (T.setTop (mkF m pc' Ls (.int z :: st)))) : own_Go p e below Fe Q (T.setTop (mkF m pc Ls (.double y :: .double x :: st))) := by
  subst hp
  exact own_st (fun _ hr => XS.dcmpS X.here hx rfl hd rfl hz hr) k
theorem own_iinc (X : Stand p l e R s m args below meth c T locs cells slots) (hx : p.tables.exec = Jvm.exec) {i : Nat} {cst : Int} {x : Int32} (pc' : Nat) (hp : pc + 3 = pc') (hd : decode c.code pc = .ok (.iinc i cst, 3)) (hl : Ls[i]? = some (.val (.int x))) (Ls' : Array Slot) (hl' : storeLocals Ls i (.int (x + Int32.ofInt cst)) = some Ls') (k : own_Go p e below Fe Q (T.setTop (mkF m pc' Ls' (st)))) : own_Go p e below Fe Q (T.setTop (mkF m pc Ls (st))) := by
  subst hp
  exact own_st (fun _ hr => XS.iinc X.here hx rfl hd hl hl' hr) k
theorem own_dup (X : Stand p l e R s m args below meth c T locs cells slots) (hx : p.tables.exec = Jvm.exec) {x : Value} (pc' : Nat) (hp : pc + 1 = pc') (hd : decode c.code pc = .ok (.dup, 1)) (hc : x.category = 1) (k : own_Go p e below Fe Q (T.setTop (mkF m pc' Ls (x :: x :: st)))) : own_Go p e below Fe Q (T.setTop (mkF m pc Ls (x :: st))) := by
  subst hp
  exact own_st (fun _ hr => XS.dup X.here hx rfl hd rfl hc hr) k
theorem own_dupX1 (X : Stand p l e R s m args below meth c T locs cells slots) (hx : p.tables.exec = Jvm.exec) {x y : Value} (pc' : Nat) (hp : pc + 1 = pc') (hd : decode c.code pc = .ok (.dup_x1, 1)) (hc : x.category = 1) (hc' : y.category = 1) (k : own_Go p e below Fe Q (T.setTop (mkF m pc' Ls (x :: y :: x :: st)))) : own_Go p e below Fe Q (T.setTop (mkF m pc Ls (x :: y :: st))) := by
  subst hp
  exact own_st (fun _ hr => XS.dupX1 X.here hx rfl hd rfl hc hc' hr) k
theorem own_pop (X : Stand p l e R s m args below meth c T locs cells slots) (hx : p.tables.exec = Jvm.exec) {x : Value} (pc' : Nat) (hp : pc + 1 = pc') (hd : decode c.code pc = .ok (.pop, 1)) (hc : x.category = 1) (k : own_Go p e below Fe Q (T.setTop (mkF m pc' Ls (st)))) : own_Go p e below Fe Q (T.setTop (mkF m pc Ls (x :: st))) := by
  subst hp
  exact own_st (fun _ hr => XS.pop X.here hx rfl hd rfl hc hr) k
theorem own_goto (X : Stand p l e R s m args below meth c T locs cells slots) (hx : p.tables.exec = Jvm.exec)  {o : Int} (pc' : Nat) (hd : decode c.code pc = .ok (.goto o, 3))  (ho : 0 ≤ (pc : Int) + o) (hp : ((pc : Int) + o).toNat = pc') (k : own_Go p e below Fe Q (T.setTop (mkF m pc' Ls (st)))) : own_Go p e below Fe Q (T.setTop (mkF m pc Ls (st))) :=
  own_st (fun _ hr => XS.goto X.here hx rfl rfl hd ho hp hr) k
theorem own_ifYes (X : Stand p l e R s m args below meth c T locs cells slots) (hx : p.tables.exec = Jvm.exec) {cd : ClassFile.Cond} {x : Int32} {o : Int} (pc' : Nat) (hd : decode c.code pc = .ok (.ifCond cd o, 3)) (hc : ifCond.holds cd x = true) (ho : 0 ≤ (pc : Int) + o) (hp : ((pc : Int) + o).toNat = pc') (k : own_Go p e below Fe Q (T.setTop (mkF m pc' Ls (st)))) : own_Go p e below Fe Q (T.setTop (mkF m pc Ls (.int x :: st))) :=
  own_st (fun _ hr => XS.ifYes X.here hx rfl rfl hd rfl hc ho hp hr) k
theorem own_icmpYes (X : Stand p l e R s m args below meth c T locs cells slots) (hx : p.tables.exec = Jvm.exec) {cd : ClassFile.Cond} {x y : Int32} {o : Int} (pc' : Nat) (hd : decode c.code pc = .ok (.if_icmp cd o, 3)) (hc : if_icmp.holds cd x y = true) (ho : 0 ≤ (pc : Int) + o) (hp : ((pc : Int) + o).toNat = pc') (k : own_Go p e below Fe Q (T.setTop (mkF m pc' Ls (st)))) : own_Go p e below Fe Q (T.setTop (mkF m pc Ls (.int y :: .int x :: st))) :=
  own_st (fun _ hr => XS.icmpYes X.here hx rfl rfl hd rfl hc ho hp hr) k
theorem own_ifnullYes (X : Stand p l e R s m args below meth c T locs cells slots) (hx : p.tables.exec = Jvm.exec)  {o : Int} (pc' : Nat) (hd : decode c.code pc = .ok (.ifnull o, 3))  (ho : 0 ≤ (pc : Int) + o) (hp : ((pc : Int) + o).toNat = pc') (k : own_Go p e below Fe Q (T.setTop (mkF m pc' Ls (st)))) : own_Go p e below Fe Q (T.setTop (mkF m pc Ls (.null :: st))) :=
  own_st (fun _ hr => XS.ifnullYes X.here hx rfl rfl hd rfl ho hp hr) k
theorem own_ifnonnullYes (X : Stand p l e R s m args below meth c T locs cells slots) (hx : p.tables.exec = Jvm.exec) {b : Addr} {o : Int} (pc' : Nat) (hd : decode c.code pc = .ok (.ifnonnull o, 3))  (ho : 0 ≤ (pc : Int) + o) (hp : ((pc : Int) + o).toNat = pc') (k : own_Go p e below Fe Q (T.setTop (mkF m pc' Ls (st)))) : own_Go p e below Fe Q (T.setTop (mkF m pc Ls (.ref b :: st))) :=
  own_st (fun _ hr => XS.ifnonnullYes X.here hx rfl rfl hd rfl ho hp hr) k
theorem own_ifNo (X : Stand p l e R s m args below meth c T locs cells slots) (hx : p.tables.exec = Jvm.exec) {cd : ClassFile.Cond} {o : Int} {x : Int32} (pc' : Nat) (hp : pc + 3 = pc') (hd : decode c.code pc = .ok (.ifCond cd o, 3)) (hc : ifCond.holds cd x = false) (k : own_Go p e below Fe Q (T.setTop (mkF m pc' Ls (st)))) : own_Go p e below Fe Q (T.setTop (mkF m pc Ls (.int x :: st))) := by
  subst hp
  exact own_st (fun _ hr => XS.ifNo X.here hx rfl hd rfl hc hr) k
theorem own_icmpNo (X : Stand p l e R s m args below meth c T locs cells slots) (hx : p.tables.exec = Jvm.exec) {cd : ClassFile.Cond} {o : Int} {x y : Int32} (pc' : Nat) (hp : pc + 3 = pc') (hd : decode c.code pc = .ok (.if_icmp cd o, 3)) (hc : if_icmp.holds cd x y = false) (k : own_Go p e below Fe Q (T.setTop (mkF m pc' Ls (st)))) : own_Go p e below Fe Q (T.setTop (mkF m pc Ls (.int y :: .int x :: st))) := by
  subst hp
  exact own_st (fun _ hr => XS.icmpNo X.here hx rfl hd rfl hc hr) k
theorem own_ifnullNo (X : Stand p l e R s m args below meth c T locs cells slots) (hx : p.tables.exec = Jvm.exec) {o : Int} {b : Addr} (pc' : Nat) (hp : pc + 3 = pc') (hd : decode c.code pc = .ok (.ifnull o, 3))  (k : own_Go p e below Fe Q (T.setTop (mkF m pc' Ls (st)))) : own_Go p e below Fe Q (T.setTop (mkF m pc Ls (.ref b :: st))) := by
  subst hp
  exact own_st (fun _ hr => XS.ifnullNo X.here hx rfl hd rfl hr) k
theorem own_ifnonnullNo (X : Stand p l e R s m args below meth c T locs cells slots) (hx : p.tables.exec = Jvm.exec) {o : Int} (pc' : Nat) (hp : pc + 3 = pc') (hd : decode c.code pc = .ok (.ifnonnull o, 3))  (k : own_Go p e below Fe Q (T.setTop (mkF m pc' Ls (st)))) : own_Go p e below Fe Q (T.setTop (mkF m pc Ls (.null :: st))) := by
  subst hp
  exact own_st (fun _ hr => XS.ifnonnullNo X.here hx rfl hd rfl hr) k
theorem own_acmp (X : Stand p l e R s m args below meth c T locs cells slots) (hx : p.tables.exec = Jvm.exec) {cd : ACond} {x y : Value} {o : Int} (same : Bool) (pc' : Nat) (hd : decode c.code pc = .ok (.if_acmp cd o, 3)) (h1 : x.isRef = true) (h2 : y.isRef = true) (hq : decide (x = y) = same) (ho : 0 ≤ (pc : Int) + o) (hp : pc' = if acV cd same = true then ((pc : Int) + o).toNat else pc + 3) (k : own_Go p e below Fe Q (T.setTop (mkF m pc' Ls st))) : own_Go p e below Fe Q (T.setTop (mkF m pc Ls (y :: x :: st))) :=
  own_st (fun _ hr => Jvm.RoadKit.acmp (g := mkF m pc Ls (y :: x :: st)) X hx rfl h1 h2 (pc0 := pc) (pc' := pc') (same := same) rfl hd rfl hq ho hp hr) k
theorem own_tsw (X : Stand p l e R s m args below meth c T locs cells slots) (hx : p.tables.exec = Jvm.exec) {dflt low high : Int} {offs : Array Int} {len : Nat} {i : Int32} {o : Int} (pc' : Nat) (hd : decode c.code pc = .ok (.tableswitch dflt low high offs, len)) (hin : ¬ (i.toInt < low ∨ i.toInt > high)) (hoff : offs[(i.toInt - low).toNat]? = some o) (ho : 0 ≤ (pc : Int) + o) (hp : ((pc : Int) + o).toNat = pc') (k : own_Go p e below Fe Q (T.setTop (mkF m pc' Ls st))) : own_Go p e below Fe Q (T.setTop (mkF m pc Ls (.int i :: st))) :=
  own_st (fun _ hr => XS.tswIn X.here hx rfl rfl hd rfl hin hoff ho hp hr) k
theorem own_ldcI (X : Stand p l e R s m args below meth c T locs cells slots) (hx : p.tables.exec = Jvm.exec) (hZ : Z.Warmed39 s.vm) {own : String} {index : Nat} (hown : s.vm.findClass own = some m.cls) {z : Int32} (w : (Jvm.Cond.constant own index z).before a0 Z = true) (pc' : Nat) (hp : pc + 2 = pc') (hd : decode c.code pc = .ok (.ldc index, 2)) (k : own_Go p e below Fe Q (T.setTop (mkF m pc' Ls (.int z :: st)))) : own_Go p e below Fe Q (T.setTop (mkF m pc Ls st)) := by
  subst hp
  exact own_st (X.ldcInt hx hown (mvT hZ w) (g := mkF m pc Ls st) rfl hd) k
theorem own_ldcWI (X : Stand p l e R s m args below meth c T locs cells slots) (hx : p.tables.exec = Jvm.exec) (hZ : Z.Warmed39 s.vm) {own : String} {index : Nat} (hown : s.vm.findClass own = some m.cls) {z : Int32} (w : (Jvm.Cond.constant own index z).before a0 Z = true) (pc' : Nat) (hp : pc + 3 = pc') (hd : decode c.code pc = .ok (.ldc_w index, 3)) (k : own_Go p e below Fe Q (T.setTop (mkF m pc' Ls (.int z :: st)))) : own_Go p e below Fe Q (T.setTop (mkF m pc Ls st)) := by
  subst hp
  exact own_st (X.ldcwInt hx hown (mvT hZ w) (g := mkF m pc Ls st) rfl hd) k
theorem own_ldcJ (X : Stand p l e R s m args below meth c T locs cells slots) (hx : p.tables.exec = Jvm.exec) (hZ : Z.Warmed39 s.vm) {own : String} {index : Nat} (hown : s.vm.findClass own = some m.cls) {z : Int64} (w : (Jvm.Cond.constantLong own index z).before a0 Z = true) (pc' : Nat) (hp : pc + 3 = pc') (hd : decode c.code pc = .ok (.ldc2_w index, 3)) (k : own_Go p e below Fe Q (T.setTop (mkF m pc' Ls (.long z :: st)))) : own_Go p e below Fe Q (T.setTop (mkF m pc Ls st)) := by
  subst hp
  exact own_st (X.ldc2Long hx hown (mvT hZ w) (g := mkF m pc Ls st) rfl hd) k
theorem own_ldcD (X : Stand p l e R s m args below meth c T locs cells slots) (hx : p.tables.exec = Jvm.exec) (hZ : Z.Warmed39 s.vm) {own : String} {index : Nat} (hown : s.vm.findClass own = some m.cls) {z : UInt64} (w : (Jvm.Cond.constantDouble own index z).before a0 Z = true) (pc' : Nat) (hp : pc + 3 = pc') (hd : decode c.code pc = .ok (.ldc2_w index, 3)) (k : own_Go p e below Fe Q (T.setTop (mkF m pc' Ls (.double z :: st)))) : own_Go p e below Fe Q (T.setTop (mkF m pc Ls st)) := by
  subst hp
  exact own_st (X.ldc2DoubleC hx hown (mvT hZ w) (g := mkF m pc Ls st) rfl hd) k
theorem own_getS (X : Stand p l e R s m args below meth c T locs cells slots) (hx : p.tables.exec = Jvm.exec) (hZ : Z.Warmed39 s.vm) {own R0 O n d host : String} {index : Nat} (hown : s.vm.findClass own = some m.cls) (w : (Jvm.Cond.fieldLink own index R0 n d).before a0 Z = true ∨ (Jvm.Cond.fieldLinkNest own index R0 n d host).before a0 Z = true) (via : Via Z R0 O n d) (eT : T.heap = h) {v : Value} (F : Sta Z h O n d v) (pc' : Nat) (hp : pc + 3 = pc') (hd : decode c.code pc = .ok (.getstatic index, 3))
    (k : ∀ T', Stand p l e R s m args below meth c T' locs cells slots → T'.heap = h → own_Go p e below Fe Q (T'.setTop (mkF m pc' Ls (v :: st)))) : own_Go p e below Fe Q (T.setTop (mkF m pc Ls st)) := by
  subst hp
  obtain ⟨T', X', e', st'⟩ := getS2 X hx hZ hown w via eT F (g := mkF m pc Ls st) rfl hd
  exact own_st st' (k T' X' e')
theorem own_getF (X : Stand p l e R s m args below meth c T locs cells slots) (hx : p.tables.exec = Jvm.exec) (hZ : Z.Warmed39 s.vm) {own R0 O n d host : String} {index : Nat} (hown : s.vm.findClass own = some m.cls) (w : (Jvm.Cond.fieldLink own index R0 n d).before a0 Z = true ∨ (Jvm.Cond.fieldLinkNest own index R0 n d host).before a0 Z = true) (via : Via Z R0 O n d) (eT : T.heap = h) {a : Addr} {v : Value} (F : Fld Z h a O n d v) (pc' : Nat) (hp : pc + 3 = pc') (hd : decode c.code pc = .ok (.getfield index, 3))
    (k : ∀ T', Stand p l e R s m args below meth c T' locs cells slots → T'.heap = h → own_Go p e below Fe Q (T'.setTop (mkF m pc' Ls (v :: st)))) : own_Go p e below Fe Q (T.setTop (mkF m pc Ls (.ref a :: st))) := by
  subst hp
  obtain ⟨T', X', e', st'⟩ := getF X hx hZ hown w via eT F (g := mkF m pc Ls (.ref a :: st)) rfl rfl hd
  exact own_st st' (k T' X' e')
theorem own_putF (X : Stand p l e R s m args below meth c T locs cells slots) (hx : p.tables.exec = Jvm.exec) (hZ : Z.Warmed39 s.vm) {own R0 O n d host C : String} {index kk : Nat} {ty : FieldType} (hown : s.vm.findClass own = some m.cls) (w : (Jvm.Cond.fieldLink own index R0 n d).before a0 Z = true ∨ (Jvm.Cond.fieldLinkNest own index R0 n d host).before a0 Z = true) (via : Via Z R0 O n d) (eT : T.heap = h) {a : Addr} {v old : Value} (F : Fld Z h a O n d old) (E : Exa Z h a C)
    (L : (Jvm.Cond.lays C O n d).before a0 Z = true ∨ ((Jvm.Cond.laysFinal C O n d).before a0 Z = true ∧ own = O ∧ meth.name = "<init>")) (wi : (Jvm.Cond.instantiable C kk).before a0 Z = true) (hty : parseFieldDescriptor d = some ty) (hn : narrow ty v = v) (hf : Jvm.fits ty v = true) (pc' : Nat) (hp : pc + 3 = pc') (hd : decode c.code pc = .ok (.putfield index, 3))
    (k : ∀ T' h', Stand p l e R s m args below meth c T' (locs ++ [⟨a, Jvm.RoadKit.slotOf Z O n d⟩]) cells slots → T'.heap = h' → Wr h h' a (Jvm.RoadKit.slotOf Z O n d) v → own_Go p e below Fe Q (T'.setTop (mkF m pc' Ls st))) : own_Go p e below Fe Q (T.setTop (mkF m pc Ls (v :: .ref a :: st))) := by
  subst hp
  obtain ⟨T', h', X', e', W', st'⟩ := putF X hx hZ hown w via eT F E L wi hty hn hf (g := mkF m pc Ls (v :: .ref a :: st)) rfl rfl hd
  exact own_st st' (k T' h' X' e' W')
theorem own_putFN (X : Stand p l e R s m args below meth c T locs cells slots) (hx : p.tables.exec = Jvm.exec) (hZ : Z.Warmed39 s.vm) {own R0 O n d C : String} {index kk : Nat} {ty : FieldType} (hown : s.vm.findClass own = some m.cls) (w : (Jvm.Cond.fieldLink own index R0 n d).before a0 Z = true) (via : Via Z R0 O n d) (eT : T.heap = h) {a : Addr} {v v' old : Value} (F : Fld Z h a O n d old) (E : Exa Z h a C)
    (L : (Jvm.Cond.lays C O n d).before a0 Z = true ∨ ((Jvm.Cond.laysFinal C O n d).before a0 Z = true ∧ own = O ∧ meth.name = "<init>")) (wi : (Jvm.Cond.instantiable C kk).before a0 Z = true) (hty : parseFieldDescriptor d = some ty) (hn : narrow ty v = v') (hf : Jvm.fits ty v' = true) (pc' : Nat) (hp : pc + 3 = pc') (hd : decode c.code pc = .ok (.putfield index, 3))
    (k : ∀ T' h', Stand p l e R s m args below meth c T' (locs ++ [⟨a, Jvm.RoadKit.slotOf Z O n d⟩]) cells slots → T'.heap = h' → Wr h h' a (Jvm.RoadKit.slotOf Z O n d) v' → own_Go p e below Fe Q (T'.setTop (mkF m pc' Ls st))) : own_Go p e below Fe Q (T.setTop (mkF m pc Ls (v :: .ref a :: st))) := by
  subst hp
  obtain ⟨T', h', X', e', W', st'⟩ := putFN X hx hZ hown w via eT F E L wi hty hn hf (g := mkF m pc Ls (v :: .ref a :: st)) rfl rfl hd
  exact own_st st' (k T' h' X' e' W')
theorem own_new (X : Stand p l e R s m args below meth c T locs cells slots) (hx : p.tables.exec = Jvm.exec) (hZ : Z.Warmed39 s.vm) {own C : String} {index n : Nat} (hown : s.vm.findClass own = some m.cls) (w : (Jvm.Cond.classLink own index C).before a0 Z = true) (wi : (Jvm.Cond.instantiable C n).before a0 Z = true) (wz : (Jvm.Cond.initialized C).before a0 Z = true) (eT : T.heap = h) (pc' : Nat) (hp : pc + 3 = pc') (hd : decode c.code pc = .ok (.new index, 3)) (hc : cells + 1 ≤ R.cells) (hl : slots + n ≤ R.slots)
    (k : ∀ T' h' b, b = h.size → Stand p l e R s m args below meth c T' locs (cells + 1) (slots + n) → T'.heap = h' → Ext h h' → Exa Z h' b C → (∀ {O nm d : String} {ty : FieldType}, Laid Z a0 C O nm d → parseFieldDescriptor d = some ty → Fld Z h' b O nm d (defaultValue ty)) → own_Go p e below Fe Q (T'.setTop (mkF m pc' Ls (.ref b :: st)))) : own_Go p e below Fe Q (T.setTop (mkF m pc Ls st)) := by
  subst hp
  obtain ⟨T', h', X', e', E', A', D', -, st'⟩ := newO X hx hZ hown w wi wz eT (g := mkF m pc Ls st) rfl hd hc hl
  exact own_st st' (k T' h' _ rfl X' e' E' A' D')
theorem own_newA (X : Stand p l e R s m args below meth c T locs cells slots) (hx : p.tables.exec = Jvm.exec) (hZ : Z.Warmed39 s.vm) {aty : ArrayType} (w : (Jvm.Cond.arrayClass (newarray.typeOf aty)).before a0 Z = true) (eT : T.heap = h) {n : Int32} (pc' : Nat) (hp : pc + 2 = pc') (hd : decode c.code pc = .ok (.newarray aty, 2)) (hn : ¬ n < 0) (cap : Nat) (hcap : n.toNatClampNeg ≤ cap) (hb : cap * 8 ≤ 536870912) (hc : cells + 1 ≤ R.cells) (hl : slots + cap ≤ R.slots) (ad : String) (had : "[" ++ (newarray.typeOf aty).toString = ad)
    (k : ∀ T' h' cA b, b = h.size → Stand p l e R s m args below meth c T' locs (cells + 1) (slots + cap) → T'.heap = h' → Ext h h' → Arr Z h' b (newA cA (newarray.typeOf aty) n) (newarray.typeOf aty) → Exa Z h' b ad → own_Go p e below Fe Q (T'.setTop (mkF m pc' Ls (.ref b :: st)))) : own_Go p e below Fe Q (T.setTop (mkF m pc Ls (.int n :: st))) := by
  subst hp
  obtain ⟨T', h', cA, X', e', E', A', C', st'⟩ := newPE X hx hZ w eT (g := mkF m pc Ls (.int n :: st)) rfl hd rfl hn hcap hb hc hl had
  exact own_st st' (k T' h' cA _ rfl X' e' E' A' C')
theorem own_stI (X : Stand p l e R s m args below meth c T locs cells slots) (hx : p.tables.exec = Jvm.exec) (hZ : Z.Warmed39 s.vm) (eT : T.heap = h) {a : Addr} {kA : ClassId} {n : Int32} {vs : List Value} {dv : Value} (F : Arv Z h a kA .int n vs dv) {j : Int32} {x : Int32} (hj : ¬ j < 0 ∧ j < n) (i : Nat) (hi : j.toNatClampNeg = i) (hl : i < vs.length) (vs' : List Value) (hvs : vs.set i (.int x) = vs') (pc' : Nat) (hp : pc + 1 = pc') (hd : decode c.code pc = .ok (.iastore, 1))
    (k : ∀ T' h', Stand p l e R s m args below meth c T' (locs ++ [⟨a, j.toNatClampNeg⟩]) cells slots → T'.heap = h' → Wr h h' a j.toNatClampNeg (.int x) → Arv Z h' a kA .int n vs' dv → own_Go p e below Fe Q (T'.setTop (mkF m pc' Ls st))) : own_Go p e below Fe Q (T.setTop (mkF m pc Ls (.int x :: .int j :: .ref a :: st))) := by
  subst hp; subst hvs
  obtain ⟨cl, Ar, q, S, N1, H, G⟩ := F
  have hin := inb_of S hj
  obtain ⟨T', h', X', e', W', st'⟩ := stI X hx hZ eT Ar (j := j) hin (g := mkF m pc Ls (.int x :: .int j :: .ref a :: st)) rfl rfl hd
  exact own_st st' (k T' h' X' e' W' (Arv.set Ar q S N1 H G rfl W' i hi hl))
theorem own_stJ (X : Stand p l e R s m args below meth c T locs cells slots) (hx : p.tables.exec = Jvm.exec) (hZ : Z.Warmed39 s.vm) (eT : T.heap = h) {a : Addr} {kA : ClassId} {n : Int32} {vs : List Value} {dv : Value} (F : Arv Z h a kA .long n vs dv) {j : Int32} {x : Int64} (hj : ¬ j < 0 ∧ j < n) (i : Nat) (hi : j.toNatClampNeg = i) (hl : i < vs.length) (vs' : List Value) (hvs : vs.set i (.long x) = vs') (pc' : Nat) (hp : pc + 1 = pc') (hd : decode c.code pc = .ok (.lastore, 1))
    (k : ∀ T' h', Stand p l e R s m args below meth c T' (locs ++ [⟨a, j.toNatClampNeg⟩]) cells slots → T'.heap = h' → Wr h h' a j.toNatClampNeg (.long x) → Arv Z h' a kA .long n vs' dv → own_Go p e below Fe Q (T'.setTop (mkF m pc' Ls st))) : own_Go p e below Fe Q (T.setTop (mkF m pc Ls (.long x :: .int j :: .ref a :: st))) := by
  subst hp; subst hvs
  obtain ⟨cl, Ar, q, S, N1, H, G⟩ := F
  have hin := inb_of S hj
  obtain ⟨T', h', X', e', W', st'⟩ := stJ X hx hZ eT Ar (j := j) hin (g := mkF m pc Ls (.long x :: .int j :: .ref a :: st)) rfl rfl hd
  exact own_st st' (k T' h' X' e' W' (Arv.set Ar q S N1 H G rfl W' i hi hl))
theorem own_stD (X : Stand p l e R s m args below meth c T locs cells slots) (hx : p.tables.exec = Jvm.exec) (hZ : Z.Warmed39 s.vm) (eT : T.heap = h) {a : Addr} {kA : ClassId} {n : Int32} {vs : List Value} {dv : Value} (F : Arv Z h a kA .double n vs dv) {j : Int32} {x : UInt64} (hj : ¬ j < 0 ∧ j < n) (i : Nat) (hi : j.toNatClampNeg = i) (hl : i < vs.length) (vs' : List Value) (hvs : vs.set i (.double x) = vs') (pc' : Nat) (hp : pc + 1 = pc') (hd : decode c.code pc = .ok (.dastore, 1))
    (k : ∀ T' h', Stand p l e R s m args below meth c T' (locs ++ [⟨a, j.toNatClampNeg⟩]) cells slots → T'.heap = h' → Wr h h' a j.toNatClampNeg (.double x) → Arv Z h' a kA .double n vs' dv → own_Go p e below Fe Q (T'.setTop (mkF m pc' Ls st))) : own_Go p e below Fe Q (T.setTop (mkF m pc Ls (.double x :: .int j :: .ref a :: st))) := by
  subst hp; subst hvs
  obtain ⟨cl, Ar, q, S, N1, H, G⟩ := F
  have hin := inb_of S hj
  obtain ⟨T', h', X', e', W', st'⟩ := stD X hx hZ eT Ar (j := j) hin (g := mkF m pc Ls (.double x :: .int j :: .ref a :: st)) rfl rfl hd
  exact own_st st' (k T' h' X' e' W' (Arv.set Ar q S N1 H G rfl W' i hi hl))
theorem own_stB (X : Stand p l e R s m args below meth c T locs cells slots) (hx : p.tables.exec = Jvm.exec) (hZ : Z.Warmed39 s.vm) (eT : T.heap = h) {a : Addr} {kA : ClassId} {n : Int32} {vs : List Value} {dv : Value} (F : Arv Z h a kA .byte n vs dv) {j : Int32} {x : Int32} (hj : ¬ j < 0 ∧ j < n) (i : Nat) (hi : j.toNatClampNeg = i) (hl : i < vs.length) (vs' : List Value) (hvs : vs.set i (.int x.toInt8.toInt32) = vs') (pc' : Nat) (hp : pc + 1 = pc') (hd : decode c.code pc = .ok (.bastore, 1))
    (k : ∀ T' h', Stand p l e R s m args below meth c T' (locs ++ [⟨a, j.toNatClampNeg⟩]) cells slots → T'.heap = h' → Wr h h' a j.toNatClampNeg (.int x.toInt8.toInt32) → Arv Z h' a kA .byte n vs' dv → own_Go p e below Fe Q (T'.setTop (mkF m pc' Ls st))) : own_Go p e below Fe Q (T.setTop (mkF m pc Ls (.int x :: .int j :: .ref a :: st))) := by
  subst hp; subst hvs
  obtain ⟨cl, Ar, q, S, N1, H, G⟩ := F
  have hin := inb_of S hj
  obtain ⟨T', h', X', e', W', st'⟩ := stB X hx hZ eT Ar (j := j) hin (g := mkF m pc Ls (.int x :: .int j :: .ref a :: st)) rfl rfl hd
  exact own_st st' (k T' h' X' e' W' (Arv.set Ar q S N1 H G (fits_nar_byte x) W' i hi hl))
theorem own_stZ (X : Stand p l e R s m args below meth c T locs cells slots) (hx : p.tables.exec = Jvm.exec) (hZ : Z.Warmed39 s.vm) (eT : T.heap = h) {a : Addr} {kA : ClassId} {n : Int32} {vs : List Value} {dv : Value} (F : Arv Z h a kA .boolean n vs dv) {j : Int32} {x : Int32} (hj : ¬ j < 0 ∧ j < n) (i : Nat) (hi : j.toNatClampNeg = i) (hl : i < vs.length) (vs' : List Value) (hvs : vs.set i (.int (nar .boolean x)) = vs') (pc' : Nat) (hp : pc + 1 = pc') (hd : decode c.code pc = .ok (.bastore, 1))
    (k : ∀ T' h', Stand p l e R s m args below meth c T' (locs ++ [⟨a, j.toNatClampNeg⟩]) cells slots → T'.heap = h' → Wr h h' a j.toNatClampNeg (.int (nar .boolean x)) → Arv Z h' a kA .boolean n vs' dv → own_Go p e below Fe Q (T'.setTop (mkF m pc' Ls st))) : own_Go p e below Fe Q (T.setTop (mkF m pc Ls (.int x :: .int j :: .ref a :: st))) := by
  subst hp; subst hvs
  obtain ⟨cl, Ar, q, S, N1, H, G⟩ := F
  have hin := inb_of S hj
  obtain ⟨T', h', X', e', W', st'⟩ := stZ X hx hZ eT Ar (j := j) hin (g := mkF m pc Ls (.int x :: .int j :: .ref a :: st)) rfl rfl hd
  exact own_st st' (k T' h' X' e' W' (Arv.set Ar q S N1 H G (fits_nar_bool x) W' i hi hl))
theorem own_stC (X : Stand p l e R s m args below meth c T locs cells slots) (hx : p.tables.exec = Jvm.exec) (hZ : Z.Warmed39 s.vm) (eT : T.heap = h) {a : Addr} {kA : ClassId} {n : Int32} {vs : List Value} {dv : Value} (F : Arv Z h a kA .char n vs dv) {j : Int32} {x : Int32} (hj : ¬ j < 0 ∧ j < n) (i : Nat) (hi : j.toNatClampNeg = i) (hl : i < vs.length) (vs' : List Value) (hvs : vs.set i (.int (nar .char x)) = vs') (pc' : Nat) (hp : pc + 1 = pc') (hd : decode c.code pc = .ok (.castore, 1))
    (k : ∀ T' h', Stand p l e R s m args below meth c T' (locs ++ [⟨a, j.toNatClampNeg⟩]) cells slots → T'.heap = h' → Wr h h' a j.toNatClampNeg (.int (nar .char x)) → Arv Z h' a kA .char n vs' dv → own_Go p e below Fe Q (T'.setTop (mkF m pc' Ls st))) : own_Go p e below Fe Q (T.setTop (mkF m pc Ls (.int x :: .int j :: .ref a :: st))) := by
  subst hp; subst hvs
  obtain ⟨cl, Ar, q, S, N1, H, G⟩ := F
  have hin := inb_of S hj
  obtain ⟨T', h', X', e', W', st'⟩ := stC X hx hZ eT Ar (j := j) hin (g := mkF m pc Ls (.int x :: .int j :: .ref a :: st)) rfl rfl hd
  exact own_st st' (k T' h' X' e' W' (Arv.set Ar q S N1 H G (fits_nar_char x) W' i hi hl))
theorem own_ldI (X : Stand p l e R s m args below meth c T locs cells slots) (hx : p.tables.exec = Jvm.exec) (hZ : Z.Warmed39 s.vm) (eT : T.heap = h) {a : Addr} {kA : ClassId} {n : Int32} {vs : List Value} {dv : Value} (F : Arv Z h a kA .int n vs dv) {j : Int32} (hj : ¬ j < 0 ∧ j < n) (x : Int32) (hv : vs.getD j.toNatClampNeg dv = (.int x)) (pc' : Nat) (hp : pc + 1 = pc') (hd : decode c.code pc = .ok (.iaload, 1))
    (k : own_Go p e below Fe Q (T.setTop (mkF m pc' Ls (.int x :: st)))) : own_Go p e below Fe Q (T.setTop (mkF m pc Ls (.int j :: .ref a :: st))) := by
  subst hp
  obtain ⟨cl, Ar, q, S, N1, H, G⟩ := F
  have hin := inb_of S hj
  exact own_st (X.iaload hx (j := j) (v := .int x) (by rw [eT]; exact Ar.1) (State.isArrayOf_alike hZ.alike Ar.2.1) Ar.2.2 hin (Has.at H hin hv) (g := mkF m pc Ls (.int j :: .ref a :: st)) rfl rfl hd) k
theorem own_ldD (X : Stand p l e R s m args below meth c T locs cells slots) (hx : p.tables.exec = Jvm.exec) (hZ : Z.Warmed39 s.vm) (eT : T.heap = h) {a : Addr} {kA : ClassId} {n : Int32} {vs : List Value} {dv : Value} (F : Arv Z h a kA .double n vs dv) {j : Int32} (hj : ¬ j < 0 ∧ j < n) (x : UInt64) (hv : vs.getD j.toNatClampNeg dv = (.double x)) (pc' : Nat) (hp : pc + 1 = pc') (hd : decode c.code pc = .ok (.daload, 1))
    (k : own_Go p e below Fe Q (T.setTop (mkF m pc' Ls (.double x :: st)))) : own_Go p e below Fe Q (T.setTop (mkF m pc Ls (.int j :: .ref a :: st))) := by
  subst hp
  obtain ⟨cl, Ar, q, S, N1, H, G⟩ := F
  have hin := inb_of S hj
  exact own_st (X.daload hx (j := j) (v := .double x) (by rw [eT]; exact Ar.1) (State.isArrayOf_alike hZ.alike Ar.2.1) Ar.2.2 hin (Has.at H hin hv) (g := mkF m pc Ls (.int j :: .ref a :: st)) rfl rfl hd) k
theorem own_ldJ (X : Stand p l e R s m args below meth c T locs cells slots) (hx : p.tables.exec = Jvm.exec) (hZ : Z.Warmed39 s.vm) (eT : T.heap = h) {a : Addr} {kA : ClassId} {n : Int32} {vs : List Value} {dv : Value} (F : Arv Z h a kA .long n vs dv) {j : Int32} (hj : ¬ j < 0 ∧ j < n) (x : Int64) (hv : vs.getD j.toNatClampNeg dv = (.long x)) (pc' : Nat) (hp : pc + 1 = pc') (hd : decode c.code pc = .ok (.laload, 1))
    (k : own_Go p e below Fe Q (T.setTop (mkF m pc' Ls (.long x :: st)))) : own_Go p e below Fe Q (T.setTop (mkF m pc Ls (.int j :: .ref a :: st))) := by
  subst hp
  obtain ⟨cl, Ar, q, S, N1, H, G⟩ := F
  have hin := inb_of S hj
  exact own_st (X.laload hx (j := j) (v := .long x) (by rw [eT]; exact Ar.1) (State.isArrayOf_alike hZ.alike Ar.2.1) Ar.2.2 hin (Has.at H hin hv) (g := mkF m pc Ls (.int j :: .ref a :: st)) rfl rfl hd) k
theorem own_len (X : Stand p l e R s m args below meth c T locs cells slots) (hx : p.tables.exec = Jvm.exec) (hZ : Z.Warmed39 s.vm) (eT : T.heap = h) {a : Addr} {kA : ClassId} {ty : FieldType} {n : Int32} {vs : List Value} {dv : Value} (F : Arv Z h a kA ty n vs dv) (pc' : Nat) (hp : pc + 1 = pc') (hd : decode c.code pc = .ok (.arraylength, 1))
    (k : own_Go p e below Fe Q (T.setTop (mkF m pc' Ls (.int n :: st)))) : own_Go p e below Fe Q (T.setTop (mkF m pc Ls (.ref a :: st))) := by
  subst hp
  obtain ⟨cl, Ar, q, S, N1, H, G⟩ := F
  refine own_st (X.arraylength hx (by rw [eT]; exact Ar.1) (State.isArrayOf_alike hZ.alike Ar.2.1) (g := mkF m pc Ls (.ref a :: st)) rfl rfl hd) ?_
  rw [len_of S N1]
  exact k
theorem own_initO (X : Stand p l e R s m args below meth c T locs cells slots) (hx : p.tables.exec = Jvm.exec) (hZ : Z.Warmed39 s.vm) {own : String} {idx : Nat} (hown : s.vm.findClass own = some m.cls) (w1 : (Jvm.Cond.methodLink own idx Lib.objectInit).before a0 Z = true) (w2 : (Jvm.Cond.instanceMethod Lib.objectInit).before a0 Z = true) (w3 : (Jvm.Cond.code Lib.objectInit ⟨#[0xb1]⟩ 1 none).before a0 Z = true) (eT : T.heap = h) (hsize : Ls.size = c.maxLocals) {a : Addr} (pc' : Nat) (hp : pc + 3 = pc') (hd : decode c.code pc = .ok (.invokespecial idx, 3)) (hf : 1 ≤ R.frames) (W : Nat) (hW : 2 * 0 + (st.map fun v => v.category).sum ≤ W) (hl : W + 12 ≤ R.locals)
    (k : ∀ T', Stand p l e R s m args below meth c T' locs cells slots → T'.heap = h → own_Go p e below Fe Q (T'.setTop (mkF m pc' Ls st))) : own_Go p e below Fe Q (T.setTop (mkF m pc Ls (.ref a :: st))) := by
  subst hp
  obtain ⟨T', X', e', st'⟩ := initO X hx hZ hown w1 w2 w3 eT (g := mkF m pc Ls (.ref a :: st)) rfl hsize rfl hd hf hW hl
  exact own_st st' (k T' X' e')
theorem own_callS (X : Stand p l e R s m args below meth c T locs cells slots) (hx : p.tables.exec = Jvm.exec) (hZ : Z.Warmed39 s.vm) {own : String} {index : Nat} {y : MethodName} (hown : s.vm.findClass own = some m.cls) (w1 : (Jvm.Cond.methodLink own index y).before a0 Z = true) (w2 : (Jvm.Cond.static y).before a0 Z = true) (hy : y.cls ≠ "java/lang/invoke/MethodHandle" ∧ y.cls ≠ "java/lang/invoke/VarHandle") {bytes : ByteArray} {maxL : Nat} {ret : Option FieldType} {rm : Room} {as' : Array Value} {Q' : Option Value → Heap → List Loc → Prop} (hM : MetFree l y (head1 [Jvm.Cond.code y bytes maxL ret] rm) (fun a U => a = as' ∧ Z.Warmed39 U.vm ∧ U.heap = h) (fun _ _ _ _ _ => True) (fun _ U o U' => ∃ v L, o = .returned v ∧ Q' v U'.heap L ∧ FrameEnd U o U' L rm.cells rm.slots)) (wc : (Jvm.Cond.code y bytes maxL ret).before a0 Z = true) (wz : (Jvm.Cond.initialized y.cls).before a0 Z = true) (hfr : rm.frames + 1 ≤ R.frames) (eT : T.heap = h) (hsize : Ls.size = c.maxLocals) (argsL : List Value) {rest : List Value} (W : Nat) (hlo : W + (maxL + 11) + rm.locals ≤ R.locals) (hW : 2 * 0 + (rest.map fun v => v.category).sum ≤ W) (hcells : cells + rm.cells ≤ R.cells) (hslots : slots + rm.slots ≤ R.slots) (hlen : ∀ sig, parseMethodDescriptor y.desc = some sig → argsL.length = sig.parameters.length) (hst : st = argsL.reverse ++ rest) (has : argsL.toArray = as') (pc' : Nat) (hp : pc + 3 = pc') (hd : decode c.code pc = .ok (.invokestatic index, 3))
    (k : ∀ v T' Lc, Stand p l e R s m args below meth c T' (locs ++ Lc) (cells + rm.cells) (slots + rm.slots) → Q' v T'.heap Lc → own_Go p e below Fe Q (T'.setTop (mkF m pc' Ls (v.toList ++ rest)))) : own_Go p e below Fe Q (T.setTop (mkF m pc Ls st)) := by
  subst hp
  obtain ⟨v, _, ⟨T', L', k', n'⟩, -, X', ⟨Lc, hQ, l1, l2, l3⟩, st'⟩ := Jvm.LawKit.callS X hx (y := y) hown (mvT hZ w1) (mvT hZ w2) (mvT hZ wz) (mvT hZ wc) hy (backOf (W := W) hM hZ wc wz hfr hlo) (g := mkF m pc Ls st) rfl hsize (argsL := argsL) (rest := rest) hlen hst hW hd (fun _ _ => ⟨has, eT, hcells, hslots⟩)
  dsimp only [Pt.U, Pt.locs, Pt.cells, Pt.slots] at X' l1 l2 l3 st' hQ
  subst l1 l2 l3
  exact own_st st' (k v T' Lc X' hQ)
theorem own_special (X : Stand p l e R s m args below meth c T locs cells slots) (hx : p.tables.exec = Jvm.exec) (hZ : Z.Warmed39 s.vm) {own : String} {index : Nat} {y : MethodName} (hown : s.vm.findClass own = some m.cls) (hy1 : y.name = "<init>") (w1 : (Jvm.Cond.methodLink own index y).before a0 Z = true) (w2 : (Jvm.Cond.instanceMethod y).before a0 Z = true) {a : Addr} (hy : y.cls ≠ "java/lang/invoke/MethodHandle" ∧ y.cls ≠ "java/lang/invoke/VarHandle") {bytes : ByteArray} {maxL : Nat} {ret : Option FieldType} {rm : Room} {as' : Array Value} {Q' : Option Value → Heap → List Loc → Prop} (hret : ret = none) (hM : MetFree l y (head1 [Jvm.Cond.code y bytes maxL ret] rm) (fun a U => a = as' ∧ Z.Warmed39 U.vm ∧ U.heap = h) (fun _ _ _ _ _ => True) (fun _ U o U' => ∃ v L, o = .returned v ∧ Q' v U'.heap L ∧ FrameEnd U o U' L rm.cells rm.slots)) (wc : (Jvm.Cond.code y bytes maxL ret).before a0 Z = true) (wz : (Jvm.Cond.initialized y.cls).before a0 Z = true) (hfr : rm.frames + 1 ≤ R.frames) (eT : T.heap = h) (hsize : Ls.size = c.maxLocals) (argsL : List Value) {rest : List Value} (W : Nat) (hlo : W + (maxL + 11) + rm.locals ≤ R.locals) (hW : 2 * 0 + (rest.map fun v => v.category).sum ≤ W) (hcells : cells + rm.cells ≤ R.cells) (hslots : slots + rm.slots ≤ R.slots) (hlen : ∀ sig, parseMethodDescriptor y.desc = some sig → argsL.length = sig.parameters.length) (hst : st = argsL.reverse ++ .ref a :: rest) (has : (.ref a :: argsL).toArray = as') (pc' : Nat) (hp : pc + 3 = pc') (hd : decode c.code pc = .ok (.invokespecial index, 3))
    (k : ∀ v T' Lc, Stand p l e R s m args below meth c T' (locs ++ Lc) (cells + rm.cells) (slots + rm.slots) → Q' v T'.heap Lc → own_Go p e below Fe Q (T'.setTop (mkF m pc' Ls (v.toList ++ rest)))) : own_Go p e below Fe Q (T.setTop (mkF m pc Ls st)) := by
  subst hp
  obtain ⟨v, _, ⟨T', L', k', n'⟩, -, X', ⟨Lc, hQ, l1, l2, l3⟩, st'⟩ := X.specialBack hx (y := y) hy1 hown (mvT hZ w1) (mvT hZ w2) (mvT hZ (hret ▸ wc)) hy (backOf (W := W) hM hZ wc wz hfr hlo) (g := mkF m pc Ls st) rfl hsize (Steps.refl _) (a := a) (argsL := argsL) (rest := rest) hlen hst hW hd (fun _ _ => ⟨has, eT, hcells, hslots⟩)
  dsimp only [Pt.U, Pt.locs, Pt.cells, Pt.slots] at X' l1 l2 l3 st' hQ
  subst l1 l2 l3
  exact own_tr st' (k v T' Lc X' hQ)
theorem own_virtual (X : Stand p l e R s m args below meth c T locs cells slots) (hx : p.tables.exec = Jvm.exec) (hZ : Z.Warmed39 s.vm) {own : String} {index : Nat} {C : String} {y z : MethodName} (hown : s.vm.findClass own = some m.cls) (w1 : (Jvm.Cond.methodLink own index y).before a0 Z = true) (w2 : (Jvm.Cond.declares y).before a0 Z = true) (w3 : (Jvm.Cond.selects C y z).before a0 Z = true) (w4 : (Jvm.Cond.instanceMethod z).before a0 Z = true) (hyz : y = z) {a : Addr} (E : Exa Z h a C) (hy : y.cls ≠ "java/lang/invoke/MethodHandle" ∧ y.cls ≠ "java/lang/invoke/VarHandle") {bytes : ByteArray} {maxL : Nat} {ret : Option FieldType} {rm : Room} {as' : Array Value} {Q' : Option Value → Heap → List Loc → Prop} (hM : MetFree l z (head1 [Jvm.Cond.code z bytes maxL ret] rm) (fun a U => a = as' ∧ Z.Warmed39 U.vm ∧ U.heap = h) (fun _ _ _ _ _ => True) (fun _ U o U' => ∃ v L, o = .returned v ∧ Q' v U'.heap L ∧ FrameEnd U o U' L rm.cells rm.slots)) (wc : (Jvm.Cond.code z bytes maxL ret).before a0 Z = true) (wz : (Jvm.Cond.initialized z.cls).before a0 Z = true) (hfr : rm.frames + 1 ≤ R.frames) (eT : T.heap = h) (hsize : Ls.size = c.maxLocals) (argsL : List Value) {rest : List Value} (W : Nat) (hlo : W + (maxL + 11) + rm.locals ≤ R.locals) (hW : 2 * 0 + (rest.map fun v => v.category).sum ≤ W) (hcells : cells + rm.cells ≤ R.cells) (hslots : slots + rm.slots ≤ R.slots) (hlen : ∀ sig, parseMethodDescriptor y.desc = some sig → argsL.length = sig.parameters.length) (hst : st = argsL.reverse ++ .ref a :: rest) (has : (.ref a :: argsL).toArray = as') (pc' : Nat) (hp : pc + 3 = pc') (hd : decode c.code pc = .ok (.invokevirtual index, 3))
    (k : ∀ v T' Lc, Stand p l e R s m args below meth c T' (locs ++ Lc) (cells + rm.cells) (slots + rm.slots) → Q' v T'.heap Lc → own_Go p e below Fe Q (T'.setTop (mkF m pc' Ls (v.toList ++ rest)))) : own_Go p e below Fe Q (T.setTop (mkF m pc Ls st)) := by
  subst hp
  obtain ⟨cB, kB, qa, qb, qc⟩ := isOf hZ eT E
  obtain ⟨v, _, ⟨T', L', k', n'⟩, -, X', ⟨Lc, hQ, l1, l2, l3⟩, st'⟩ := X.virtualBack hx (y := y) (z := z) hown (mvT hZ w1) (mvT hZ w2) (hyz ▸ notFace_of_selects (args := #[]) (mvT hZ (hyz ▸ w3 : (Jvm.Cond.selects C z z).before a0 Z = true))) (mvT hZ w3) (mvT hZ w4) hy (backOf (W := W) hM hZ wc wz hfr hlo) qa qc (g := mkF m pc Ls st) rfl hsize (Steps.refl _) (argsL := argsL) (rest := rest) hlen hst hW hd (fun _ _ => ⟨has, eT, hcells, hslots⟩)
  dsimp only [Pt.U, Pt.locs, Pt.cells, Pt.slots] at X' l1 l2 l3 st' hQ
  subst l1 l2 l3
  exact own_tr st' (k v T' Lc X' hQ)
theorem own_virtualUp (X : Stand p l e R s m args below meth c T locs cells slots) (hx : p.tables.exec = Jvm.exec) (hZ : Z.Warmed39 s.vm) {own : String} {index : Nat} {C owner : String} {x y : MethodName} (hown : s.vm.findClass own = some m.cls) (w1 : (Jvm.Cond.methodLink own index x).before a0 Z = true) (w2 : (Jvm.Cond.sameMethod x.cls owner x.name x.desc).before a0 Z = true) (w2' : (Jvm.Cond.declares ⟨owner, x.name, x.desc⟩).before a0 Z = true) (w3 : (Jvm.Cond.selects C x y).before a0 Z = true) (w4 : (Jvm.Cond.instanceMethod y).before a0 Z = true) {a : Addr} (E : Exa Z h a C) (ho : owner ≠ "java/lang/invoke/MethodHandle" ∧ owner ≠ "java/lang/invoke/VarHandle") {bytes : ByteArray} {maxL : Nat} {ret : Option FieldType} {rm : Room} {as' : Array Value} {Q' : Option Value → Heap → List Loc → Prop} (hM : MetFree l y (head1 [Jvm.Cond.code y bytes maxL ret] rm) (fun a U => a = as' ∧ Z.Warmed39 U.vm ∧ U.heap = h) (fun _ _ _ _ _ => True) (fun _ U o U' => ∃ v L, o = .returned v ∧ Q' v U'.heap L ∧ FrameEnd U o U' L rm.cells rm.slots)) (wc : (Jvm.Cond.code y bytes maxL ret).before a0 Z = true) (wz : (Jvm.Cond.initialized y.cls).before a0 Z = true) (hfr : rm.frames + 1 ≤ R.frames) (eT : T.heap = h) (hsize : Ls.size = c.maxLocals) (argsL : List Value) {rest : List Value} (W : Nat) (hlo : W + (maxL + 11) + rm.locals ≤ R.locals) (hW : 2 * 0 + (rest.map fun v => v.category).sum ≤ W) (hcells : cells + rm.cells ≤ R.cells) (hslots : slots + rm.slots ≤ R.slots) (hlen : ∀ sig, parseMethodDescriptor x.desc = some sig → argsL.length = sig.parameters.length) (hst : st = argsL.reverse ++ .ref a :: rest) (has : (.ref a :: argsL).toArray = as') (pc' : Nat) (hp : pc + 3 = pc') (hd : decode c.code pc = .ok (.invokevirtual index, 3))
    (k : ∀ v T' Lc, Stand p l e R s m args below meth c T' (locs ++ Lc) (cells + rm.cells) (slots + rm.slots) → Q' v T'.heap Lc → own_Go p e below Fe Q (T'.setTop (mkF m pc' Ls (v.toList ++ rest)))) : own_Go p e below Fe Q (T.setTop (mkF m pc Ls st)) := by
  subst hp
  obtain ⟨cB, kB, qa, qb, qc⟩ := isOf hZ eT E
  obtain ⟨v, _, ⟨T', L', k', n'⟩, -, X', ⟨Lc, hQ, l1, l2, l3⟩, st'⟩ := X.virtualBackUp hx (x := x) (y := y) (owner := owner) hown (mvT hZ w1) (mvT hZ w2) (mvT hZ w2') ho (mvT hZ w3) (mvT hZ w4) (backOf (W := W) hM hZ wc wz hfr hlo) qa qc (g := mkF m pc Ls st) rfl hsize (Steps.refl _) (argsL := argsL) (rest := rest) hlen hst hW hd (fun _ _ => ⟨has, eT, hcells, hslots⟩)
  dsimp only [Pt.U, Pt.locs, Pt.cells, Pt.slots] at X' l1 l2 l3 st' hQ
  subst l1 l2 l3
  exact own_tr st' (k v T' Lc X' hQ)
theorem own_private (X : Stand p l e R s m args below meth c T locs cells slots) (hx : p.tables.exec = Jvm.exec) (hZ : Z.Warmed39 s.vm) {own : String} {index : Nat} {y z : MethodName} (hown : s.vm.findClass own = some m.cls) (w1 : (Jvm.Cond.methodLink own index y).before a0 Z = true) (w2 : (Jvm.Cond.instanceMethod y).before a0 Z = true) (hz : z.cls = y.cls) (w3 : (Jvm.Cond.selects z.cls z z).before a0 Z = true) (w4 : (Jvm.Cond.privateMethod y).before a0 Z = true) {a : Addr} (E : Exa Z h a y.cls) (hy : y.cls ≠ "java/lang/invoke/MethodHandle" ∧ y.cls ≠ "java/lang/invoke/VarHandle") {bytes : ByteArray} {maxL : Nat} {ret : Option FieldType} {rm : Room} {as' : Array Value} {Q' : Option Value → Heap → List Loc → Prop} (hM : MetFree l y (head1 [Jvm.Cond.code y bytes maxL ret] rm) (fun a U => a = as' ∧ Z.Warmed39 U.vm ∧ U.heap = h) (fun _ _ _ _ _ => True) (fun _ U o U' => ∃ v L, o = .returned v ∧ Q' v U'.heap L ∧ FrameEnd U o U' L rm.cells rm.slots)) (wc : (Jvm.Cond.code y bytes maxL ret).before a0 Z = true) (wz : (Jvm.Cond.initialized y.cls).before a0 Z = true) (hfr : rm.frames + 1 ≤ R.frames) (eT : T.heap = h) (hsize : Ls.size = c.maxLocals) (argsL : List Value) {rest : List Value} (W : Nat) (hlo : W + (maxL + 11) + rm.locals ≤ R.locals) (hW : 2 * 0 + (rest.map fun v => v.category).sum ≤ W) (hcells : cells + rm.cells ≤ R.cells) (hslots : slots + rm.slots ≤ R.slots) (hlen : ∀ sig, parseMethodDescriptor y.desc = some sig → argsL.length = sig.parameters.length) (hst : st = argsL.reverse ++ .ref a :: rest) (has : (.ref a :: argsL).toArray = as') (pc' : Nat) (hp : pc + 3 = pc') (hd : decode c.code pc = .ok (.invokevirtual index, 3))
    (k : ∀ v T' Lc, Stand p l e R s m args below meth c T' (locs ++ Lc) (cells + rm.cells) (slots + rm.slots) → Q' v T'.heap Lc → own_Go p e below Fe Q (T'.setTop (mkF m pc' Ls (v.toList ++ rest)))) : own_Go p e below Fe Q (T.setTop (mkF m pc Ls st)) := by
  subst hp
  obtain ⟨cq, q1, q2⟩ := E.cell
  have hsel : (Jvm.Cond.selects y.cls y y).before args s = true := by
    obtain ⟨c2, r2, m2, -, -, q3, -, kP, hkP, hkPi⟩ := Cond.selects_spec (mvT hZ w3 : (Jvm.Cond.selects z.cls z z).before args s = true)
    exact selects_self_of_private (hz ▸ findClass_of_methodNamed q3) hkP hkPi (Cond.privateMethod_at (mvP hZ w4 (args := #[]))) (mvT hZ w2) hy
  obtain ⟨v, _, ⟨T', L', k', n'⟩, -, X', ⟨Lc, hQ, l1, l2, l3⟩, st'⟩ := X.privateBack hx (y := y) hown (mvT hZ w1) (mvT hZ w2) hsel (Cond.privateMethod_at (mvP hZ w4 (args := #[]))) (mvT hZ wc) hy (backOf (W := W) hM hZ wc wz hfr hlo) (g := mkF m pc Ls st) rfl hsize (Steps.refl _) (a := a) (by rw [eT]; exact q1) q2 (argsL := argsL) (rest := rest) hlen hst hW hd (fun _ _ => ⟨has, eT, hcells, hslots⟩)
  dsimp only [Pt.U, Pt.locs, Pt.cells, Pt.slots] at X' l1 l2 l3 st' hQ
  subst l1 l2 l3
  exact own_tr st' (k v T' Lc X' hQ)
theorem own_rawbits (X : Stand p l e R s m args below meth c T locs cells slots) (hx : p.tables.exec = Jvm.exec) (hZ : Z.Warmed39 s.vm) {own : String} {index : Nat} (hown : s.vm.findClass own = some m.cls) (w1 : (Jvm.Cond.methodLink own index doubleToRawLongBitsName).before a0 Z = true) (w2 : (Jvm.Cond.native doubleToRawLongBitsName).before a0 Z = true) (w3 : (Jvm.Cond.static doubleToRawLongBitsName).before a0 Z = true) (w4 : (Jvm.Cond.initialized "java/lang/Double").before a0 Z = true) (eT : T.heap = h) (hsize : Ls.size = c.maxLocals) {b : UInt64} (pc' : Nat) (hp : pc + 3 = pc') (hd : decode c.code pc = .ok (.invokestatic index, 3)) (hf : 1 ≤ R.frames) (W : Nat) (hW : 2 * 0 + (st.map fun v => v.category).sum ≤ W) (hl : W + 15 ≤ R.locals)
    (k : ∀ T', Stand p l e R s m args below meth c T' locs cells slots → T'.heap = h → own_Go p e below Fe Q (T'.setTop (mkF m pc' Ls (.long b.toInt64 :: st)))) : own_Go p e below Fe Q (T.setTop (mkF m pc Ls (.double b :: st))) := by
  subst hp
  obtain ⟨vm', X', st'⟩ := X.doubleToRawLongBits hx hown (mvT hZ w1) (mvT hZ w2) (mvT hZ w3) (mvT hZ w4) (g := mkF m pc Ls (.double b :: st)) rfl hsize (rest := st) (b := b) rfl hd hf (Nat.le_trans (Nat.add_le_add_right hW _) hl)
  exact own_st st' (k _ X' eT)
end OwnSteps
def own_r (i : Int32) : Int32 := i &&& (1048575 : Int32)
def own_d (i j : Int32) : Int32 := (j &&& (1048575 : Int32)) % (own_r i + (1 : Int32))
def own_fac (f : Int32) : Int32 := (1 : Int32) + (((f.toUInt32 >>> ((1 : Int32) &&& 31).toUInt32).toInt32) &&& (7 : Int32))
def own_c0 (c : Int32) : Int32 := c &&& (1073741823 : Int32)
def own_c1 (c f : Int32) : Int32 := (own_c0 c + (1 : Int32)) + (((f.toUInt32 >>> ((5 : Int32) &&& 31).toUInt32).toInt32) &&& (255 : Int32))
theorem own_one : ((1 : Int32)).toInt = 1 := by decide
theorem own_zero : ((0 : Int32)).toInt = 0 := by decide
theorem own_r_rng (i : Int32) : 0 ≤ (own_r i).toInt ∧ (own_r i).toInt ≤ 1048575 := by
  unfold own_r
  rw [c_mask i 1048575 20 (by decide) (by decide)]; omega
theorem own_r1 (i : Int32) : (own_r i + (1 : Int32)).toInt = (own_r i).toInt + 1 := by
  have h0 := own_r_rng i
  have h1 := own_one
  have h2 := c_iadd (own_r i) 1
  have h3 := rng32 (own_r i + (1 : Int32))
  omega
theorem own_r1_nz (i : Int32) : (own_r i + (1 : Int32)) ≠ 0 := fun e => by
  have h0 := own_r_rng i
  have h1 := own_r1 i
  rw [e] at h1
  have h2 := own_zero
  omega
theorem own_d_rng (i j : Int32) : 0 ≤ (own_d i j).toInt ∧ (own_d i j).toInt ≤ (own_r i).toInt := by
  unfold own_d
  have h0 := c_mask j 1048575 20 (by decide) (by decide)
  have h1 := own_r1 i
  have h2 := own_r_rng i
  have h3 := (c_iremV (j &&& (1048575 : Int32)) (own_r i + (1 : Int32))).1 (by omega) (by omega)
  omega
theorem own_d1_rng (i : Int32) {d : Int32} (h : 0 ≤ d.toInt ∧ d.toInt ≤ (own_r i).toInt) : 0 ≤ (d &&& (1 : Int32)).toInt ∧ (d &&& (1 : Int32)).toInt ≤ (own_r i).toInt := by
  rw [c_mask d 1 1 (by decide) (by decide)]
  have := h.1
  have := h.2
  omega
theorem own_fac_rng (f : Int32) : ¬ own_fac f < 1 := by
  rw [Int32.lt_iff_toInt_lt]
  unfold own_fac
  have h0 := c_mask ((f.toUInt32 >>> ((1 : Int32) &&& 31).toUInt32).toInt32) 7 3 (by decide) (by decide)
  have h1 := own_one
  have h2 := c_iadd 1 (((f.toUInt32 >>> ((1 : Int32) &&& 31).toUInt32).toInt32) &&& (7 : Int32))
  have h3 := rng32 ((1 : Int32) + (((f.toUInt32 >>> ((1 : Int32) &&& 31).toUInt32).toInt32) &&& (7 : Int32)))
  omega
theorem own_c0_rng (c : Int32) : 0 ≤ (own_c0 c).toInt ∧ (own_c0 c).toInt < 1073741824 := by
  unfold own_c0
  rw [c_mask c 1073741823 30 (by decide) (by decide)]; omega
theorem own_c0_ge (c : Int32) : ¬ own_c0 c < 0 := by
  rw [Int32.lt_iff_toInt_lt]
  have h0 := own_c0_rng c
  have h1 := own_zero
  omega
theorem own_c1_gt (c f : Int32) : own_c0 c < own_c1 c f := by
  rw [Int32.lt_iff_toInt_lt]
  unfold own_c1
  have h0 := own_c0_rng c
  have h1 := own_one
  have h2 := c_iadd (own_c0 c) 1
  have h3 := rng32 (own_c0 c + 1)
  have h4 := c_mask ((f.toUInt32 >>> ((5 : Int32) &&& 31).toUInt32).toInt32) 255 8 (by decide) (by decide)
  have h5 := c_iadd (own_c0 c + 1) (((f.toUInt32 >>> ((5 : Int32) &&& 31).toUInt32).toInt32) &&& (255 : Int32))
  have h6 := rng32 ((own_c0 c + 1) + (((f.toUInt32 >>> ((5 : Int32) &&& 31).toUInt32).toInt32) &&& (255 : Int32)))
  omega
section OwnLaw
variable {i d : Int32} (hd : 0 ≤ d.toInt ∧ d.toInt ≤ (own_r i).toInt)
theorem own_lb (hd : 0 ≤ d.toInt ∧ d.toInt ≤ (own_r i).toInt) : (own_r i - d).toInt = (own_r i).toInt - d.toInt := by
  have h0 := own_r_rng i
  have h2 := c_isub (own_r i) d
  have h3 := rng32 (own_r i - d)
  have := hd.1
  have := hd.2
  omega
theorem own_ge0 (hd : 0 ≤ d.toInt ∧ d.toInt ≤ (own_r i).toInt) : ¬ 0 < cmpValue (FP.dcmp FP.dconst0 (FP.i2d (own_r i - d))) .g := own_cmp_le own_is.zero.val (own_is.i2d _).val (by rw [own_is.zero.z, Int.zero_mul]; exact (own_is.i2d _).nonneg (by rw [own_lb hd]; omega)) .g
theorem own_ler (hd : 0 ≤ d.toInt ∧ d.toInt ≤ (own_r i).toInt) : ¬ 0 < cmpValue (FP.dcmp (FP.i2d (own_r i - d)) (FP.i2d (own_r i))) .g := by
  refine own_cmp_le (own_is.i2d _).val (own_is.i2d _).val (Int.not_lt.mp fun q => ?_) .g
  have h := ((own_is.i2d (own_r i)).lt_iff (own_is.i2d (own_r i - d))).mp q
  rw [own_lb hd] at h
  have := hd.1
  omega
theorem own_eq (hd : 0 ≤ d.toInt ∧ d.toInt ≤ (own_r i).toInt) (h : d = 0) : cmpValue (FP.dcmp (FP.i2d (own_r i - d)) (FP.i2d (own_r i))) .l = 0 := (own_is.i2d _).ceq (own_is.i2d _) (by rw [own_lb hd, h, own_zero, Int.sub_zero]) .l
theorem own_lt (hd : 0 ≤ d.toInt ∧ d.toInt ≤ (own_r i).toInt) (h : ¬ d = 0) : cmpValue (FP.dcmp (FP.i2d (own_r i - d)) (FP.i2d (own_r i))) .l = -1 := (own_is.i2d _).clt (own_is.i2d _) (by
  rw [own_lb hd]
  have h0 := own_zero
  have h1 : d.toInt ≠ 0 := fun q => h (Int32.toInt_inj.mp (q.trans h0.symm))
  have := hd.1
  omega) .l
end OwnLaw
theorem own_pn0 : plainName "com/example/outpost/outpost/model/Placement" = true := by first | (simp [plainName, overriddenIn]; done) | decide +kernel
theorem own_ef_rm_init1 (m : MethodId) (o : Addr) (a : Addr) (x : UInt64) (y : UInt64) (f : Int32) : entryFrame m #[(.ref o), (.ref a), (.double x), (.double y), (.int f)] 8 = mkF m 0 #[.val (.ref o), .val (.ref a), .val (.double x), .second, .val (.double y), .second, .val (.int f), .unset] [] := by first | (simp [entryFrame, mkF, argsToLocals, Value.category]; done) | rfl
def Q_rm_init1 (Z : State) (o : Addr) (a : Addr) (x : UInt64) (y : UInt64) (f : Int32) (k : ClassId) (v0 : Int32) (h0 : Heap) (n0 : Nat) (v : Option Value) (h : Heap) (L : List Loc) : Prop := v = none ∧ Fr n0 L ∧ Keep h0 h [o] ∧ Exa Z h o "com/example/outpost/outpost/model/Placement" ∧ Fld Z h o "com/example/outpost/outpost/model/Placement" "radius" "D" (.double x) ∧ Fld Z h o "com/example/outpost/outpost/model/Placement" "lowerBound" "D" (.double y)
theorem own_d1_0 : decode prog_70_method_1_code 0 = .ok (.aload_n 0, 1) := by decide +kernel
theorem own_d1_1 : decode prog_70_method_1_code 1 = .ok (.invokespecial 1, 3) := by decide +kernel
theorem own_d1_4 : decode prog_70_method_1_code 4 = .ok (.aload_n 1, 1) := by decide +kernel
theorem own_d1_5 : decode prog_70_method_1_code 5 = .ok (.arraylength, 1) := by decide +kernel
theorem own_d1_6 : decode prog_70_method_1_code 6 = .ok (.ifCond .eq 9, 3) := by decide +kernel
theorem own_d1_9 : decode prog_70_method_1_code 9 = .ok (.aload_n 1, 1) := by decide +kernel
theorem own_d1_10 : decode prog_70_method_1_code 10 = .ok (.iconst 0, 1) := by decide +kernel
theorem own_d1_11 : decode prog_70_method_1_code 11 = .ok (.iaload, 1) := by decide +kernel
theorem own_d1_12 : decode prog_70_method_1_code 12 = .ok (.ifCond .ge 20, 3) := by decide +kernel
theorem own_d1_32 : decode prog_70_method_1_code 32 = .ok (.iconst 1, 1) := by decide +kernel
theorem own_d1_33 : decode prog_70_method_1_code 33 = .ok (.istore 7, 2) := by decide +kernel
theorem own_d1_35 : decode prog_70_method_1_code 35 = .ok (.iload 7, 2) := by decide +kernel
theorem own_d1_37 : decode prog_70_method_1_code 37 = .ok (.aload_n 1, 1) := by decide +kernel
theorem own_d1_38 : decode prog_70_method_1_code 38 = .ok (.arraylength, 1) := by decide +kernel
theorem own_d1_39 : decode prog_70_method_1_code 39 = .ok (.if_icmp .ge 39, 3) := by decide +kernel
theorem own_d1_78 : decode prog_70_method_1_code 78 = .ok (.dconst 0, 1) := by decide +kernel
theorem own_d1_79 : decode prog_70_method_1_code 79 = .ok (.dload 4, 2) := by decide +kernel
theorem own_d1_81 : decode prog_70_method_1_code 81 = .ok (.dcmp .g, 1) := by decide +kernel
theorem own_d1_82 : decode prog_70_method_1_code 82 = .ok (.ifCond .gt 10, 3) := by decide +kernel
theorem own_d1_85 : decode prog_70_method_1_code 85 = .ok (.dload 4, 2) := by decide +kernel
theorem own_d1_87 : decode prog_70_method_1_code 87 = .ok (.dload_n 2, 1) := by decide +kernel
theorem own_d1_88 : decode prog_70_method_1_code 88 = .ok (.dcmp .g, 1) := by decide +kernel
theorem own_d1_89 : decode prog_70_method_1_code 89 = .ok (.ifCond .le 19, 3) := by decide +kernel
theorem own_d1_108 : decode prog_70_method_1_code 108 = .ok (.iload 6, 2) := by decide +kernel
theorem own_d1_110 : decode prog_70_method_1_code 110 = .ok (.iconst 1, 1) := by decide +kernel
theorem own_d1_111 : decode prog_70_method_1_code 111 = .ok (.if_icmp .ge 18, 3) := by decide +kernel
theorem own_d1_129 : decode prog_70_method_1_code 129 = .ok (.aload_n 0, 1) := by decide +kernel
theorem own_d1_130 : decode prog_70_method_1_code 130 = .ok (.aload_n 1, 1) := by decide +kernel
theorem own_d1_131 : decode prog_70_method_1_code 131 = .ok (.invokevirtual 29, 3) := by decide +kernel
theorem own_d1_134 : decode prog_70_method_1_code 134 = .ok (.checkcast 30, 3) := by decide +kernel
theorem own_d1_137 : decode prog_70_method_1_code 137 = .ok (.putfield 35, 3) := by decide +kernel
theorem own_d1_140 : decode prog_70_method_1_code 140 = .ok (.aload_n 0, 1) := by decide +kernel
theorem own_d1_141 : decode prog_70_method_1_code 141 = .ok (.dload_n 2, 1) := by decide +kernel
theorem own_d1_142 : decode prog_70_method_1_code 142 = .ok (.putfield 40, 3) := by decide +kernel
theorem own_d1_145 : decode prog_70_method_1_code 145 = .ok (.aload_n 0, 1) := by decide +kernel
theorem own_d1_146 : decode prog_70_method_1_code 146 = .ok (.dload 4, 2) := by decide +kernel
theorem own_d1_148 : decode prog_70_method_1_code 148 = .ok (.putfield 44, 3) := by decide +kernel
theorem own_d1_151 : decode prog_70_method_1_code 151 = .ok (.aload_n 0, 1) := by decide +kernel
theorem own_d1_152 : decode prog_70_method_1_code 152 = .ok (.iload 6, 2) := by decide +kernel
theorem own_d1_154 : decode prog_70_method_1_code 154 = .ok (.putfield 47, 3) := by decide +kernel
theorem own_d1_157 : decode prog_70_method_1_code 157 = .ok (.return_, 1) := by decide +kernel
set_option maxRecDepth 65536 in
set_option maxHeartbeats 40000000 in
theorem rm_init1 (l : Launch) (Z : State) (a0 : Array Value) (hw : ∀ d ∈ tables_1, d.before a0 Z = true) (ws : List Jvm.Cond) (o : Addr) (a : Addr) (x : UInt64) (y : UInt64) (f : Int32) (k : ClassId) (v0 : Int32) (h0 : Heap) (n0 : Nat) (Z0 : n0 ≤ h0.size) (E1 : Exa Z h0 o "com/example/outpost/outpost/model/Placement") (F_centers : Fld Z h0 o "com/example/outpost/outpost/model/Placement" "centers" "[I" .null) (F_radius : Fld Z h0 o "com/example/outpost/outpost/model/Placement" "radius" "D" (.double (0 : UInt64))) (F_lowerBound : Fld Z h0 o "com/example/outpost/outpost/model/Placement" "lowerBound" "D" (.double (0 : UInt64))) (F_factor : Fld Z h0 o "com/example/outpost/outpost/model/Placement" "factor" "I" (.int (0 : Int32))) (g_o : n0 ≤ o) (V1 : Arv Z h0 a k .int (1 : Int32) [(.int v0)] (.int (0 : Int32))) (E2 : Exa Z h0 a "[I") (hv0 : ¬ v0 < 0) (hc1 : ¬ 0 < cmpValue (FP.dcmp FP.dconst0 y) .g) (hc2 : ¬ 0 < cmpValue (FP.dcmp y x) .g) (hf : ¬ f < 1) :
    MetFree l (⟨"com/example/outpost/outpost/model/Placement", "<init>", "([IDDI)V"⟩ : MethodName) (head1 (Jvm.Cond.code (⟨"com/example/outpost/outpost/model/Placement", "<init>", "([IDDI)V"⟩ : MethodName) prog_70_method_1_code 8 none :: ws) ({ frames := 1, cells := 1, slots := 1, locals := 20 } : Room)) (fun aa U => aa = #[(.ref o), (.ref a), (.double x), (.double y), (.int f)] ∧ Z.Warmed39 U.vm ∧ U.heap = h0) (fun _ _ _ _ _ => True) (fun _ U ou U' => ∃ v L, ou = .returned v ∧ Q_rm_init1 Z o a x y f k v0 h0 n0 v U'.heap L ∧ FrameEnd U ou U' L ({ frames := 1, cells := 1, slots := 1, locals := 20 } : Room).cells ({ frames := 1, cells := 1, slots := 1, locals := 20 } : Room).slots) := by
  refine MetFree.of_bodySF (plainFor_of_name own_pn0) hisR ?_
  intro p e s m args below meth c s₁ Bd hml0 hP hK
  obtain ⟨rfl, hZ, hh⟩ := hP
  have hx := Bd.exec
  have hby := Bd.bytes
  have hml : c.maxLocals = 8 := hml0
  have hown : s.vm.findClass "com/example/outpost/outpost/model/Placement" = some m.cls := findClass_of_methodNamed Bd.named
  have hnm := (name_of_methodNamed Bd.named Bd.method).1
  have X0 : Stand p l e ({ frames := 1, cells := 1, slots := 1, locals := 20 } : Room) s m #[(.ref o), (.ref a), (.double x), (.double y), (.int f)] below meth c s₁ [] 0 0 := Stand.of_body Bd
  have e0 : s₁.heap = h0 := by rw [← hh, Bd.state]; rfl
  have N0 := Fr.nil n0
  have K0 := Keep.refl h0 [o]
  show own_Go p e below (fun o u L => FrameEnd s o u L ({ frames := 1, cells := 1, slots := 1, locals := 20 } : Room).cells ({ frames := 1, cells := 1, slots := 1, locals := 20 } : Room).slots) (Q_rm_init1 Z o a x y f k v0 h0 n0) (s₁.setTop (entryFrame m #[(.ref o), (.ref a), (.double x), (.double y), (.int f)] 8))
  rw [own_ef_rm_init1 m o a x y f]
  show own_Go _ _ _ _ _ (State.setTop _ (mkF _ 0 #[.val (.ref o), .val (.ref a), .val (.double x), .second, .val (.double y), .second, .val (.int f), .unset] []))
  refine own_aloadN X0 hx 1 rfl (hb hby own_d1_0) rfl rfl ?_
  refine own_initO X0 hx hZ hown (own_hw hw 9 rfl) (own_hw hw 10 rfl) (own_hw hw 11 rfl) e0 (by rw [hml]; rfl) 4 rfl (hb hby own_d1_1) (by decide) 0 (Nat.le_of_eq rfl) (by decide) fun T101 X101 e101 => ?_
  refine own_aloadN X101 hx 5 rfl (hb hby own_d1_4) rfl rfl ?_
  refine own_len X101 hx hZ e101 V1 6 rfl (hb hby own_d1_5) ?_
  refine own_ifNo X101 hx 9 rfl (hb hby own_d1_6) (by decide) ?_
  refine own_aloadN X101 hx 10 rfl (hb hby own_d1_9) rfl rfl ?_
  refine own_iconst X101 hx 11 rfl (hb hby own_d1_10) (0 : Int32) rfl ?_
  refine own_ldI X101 hx hZ e101 V1 ⟨by decide, by decide⟩ v0 rfl 12 rfl (hb hby own_d1_11) ?_
  refine own_ifYes X101 hx 32 (hb hby own_d1_12) ((if0 _ _).trans (flt hv0).2.1) (by decide) rfl ?_
  refine own_iconst X101 hx 33 rfl (hb hby own_d1_32) (1 : Int32) rfl ?_
  refine own_istore X101 hx 35 rfl (hb hby own_d1_33) #[.val (.ref o), .val (.ref a), .val (.double x), .second, .val (.double y), .second, .val (.int f), .val (.int (1 : Int32))] rfl ?_
  refine own_iload X101 hx 37 rfl (hb hby own_d1_35) rfl ?_
  refine own_aloadN X101 hx 38 rfl (hb hby own_d1_37) rfl rfl ?_
  refine own_len X101 hx hZ e101 V1 39 rfl (hb hby own_d1_38) ?_
  refine own_icmpYes X101 hx 78 (hb hby own_d1_39) (by decide) (by decide) rfl ?_
  refine own_dconst0 X101 hx 79 rfl (hb hby own_d1_78) ?_
  refine own_dload X101 hx 81 rfl (hb hby own_d1_79) rfl ?_
  refine own_dcmp X101 hx 82 rfl (hb hby own_d1_81) _ rfl ?_
  refine own_ifNo X101 hx 85 rfl (hb hby own_d1_82) ((if0 _ _).trans (flt hc1).2.2.1) ?_
  refine own_dload X101 hx 87 rfl (hb hby own_d1_85) rfl ?_
  refine own_dloadN X101 hx 88 rfl (hb hby own_d1_87) rfl ?_
  refine own_dcmp X101 hx 89 rfl (hb hby own_d1_88) _ rfl ?_
  refine own_ifYes X101 hx 108 (hb hby own_d1_89) ((if0 _ _).trans (flt hc2).2.2.2) (by decide) rfl ?_
  refine own_iload X101 hx 110 rfl (hb hby own_d1_108) rfl ?_
  refine own_iconst X101 hx 111 rfl (hb hby own_d1_110) (1 : Int32) rfl ?_
  refine own_icmpYes X101 hx 129 (hb hby own_d1_111) (flt hf).2.1 (by decide) rfl ?_
  refine own_aloadN X101 hx 130 rfl (hb hby own_d1_129) rfl rfl ?_
  refine own_aloadN X101 hx 131 rfl (hb hby own_d1_130) rfl rfl ?_
  obtain ⟨T102, h102, X102, e102, E102, A102, C102, st102⟩ := cloneH X101 hx hZ hown (own_hw hw 12 rfl) (own_hw hw 13 rfl) (own_hw hw 17 rfl) (own_hw hw 15 rfl) (own_hw hw 16 rfl) (own_hw hw 18 rfl) e101 (Arv.arh V1) E2 (g := (mkF m 131 #[.val (.ref o), .val (.ref a), .val (.double x), .second, .val (.double y), .second, .val (.int f), .val (.int (1 : Int32))] [(.ref a), (.ref o)])) rfl (by rw [hml]; rfl) rfl (hb hby own_d1_131) (by decide) (W := 1) (cap := 1) (by show 2 * 0 + _ ≤ _; exact Nat.le_of_eq rfl) (by decide) (by decide) (by decide) (by decide)
  obtain ⟨b102, g102⟩ : ∃ z, z = h0.size := ⟨_, rfl⟩
  have ne103 : o ≠ b102 := Nat.ne_of_lt (Nat.lt_of_lt_of_le E1.lt (Nat.le_of_eq g102.symm))
  have ne104 : a ≠ b102 := Nat.ne_of_lt (Nat.lt_of_lt_of_le V1.lt (Nat.le_of_eq g102.symm))
  have ge105 : n0 ≤ b102 := Nat.le_trans Z0 (Nat.le_of_eq g102.symm)
  have sz106 : h0.size ≤ b102 := Nat.le_trans K0.1 (Nat.le_of_eq g102.symm)
  rw [← g102] at A102 C102 st102
  have f107 := E1.ext E102
  have f108 := F_centers.ext E102
  have f109 := F_radius.ext E102
  have f110 := F_lowerBound.ext E102
  have f111 := F_factor.ext E102
  have f112 := V1.ext E102
  have f113 := E2.ext E102
  have z114 := Nat.le_trans Z0 E102.1
  have K115 := K0.ext E102
  have f116 : Arv Z h102 b102 k .int (1 : Int32) [(.int v0)] (.int (0 : Int32)) := A102
  refine own_st st102 ?_
  show own_Go _ _ _ _ _ (State.setTop _ (mkF _ 134 #[.val (.ref o), .val (.ref a), .val (.double x), .second, .val (.double y), .second, .val (.int f), .val (.int (1 : Int32))] [(.ref b102), (.ref o)]))
  obtain ⟨T117, X117, e117, st117⟩ := castY X102 hx hZ hown (own_hw hw 19 rfl) e102 (Ins.self C102) (g := (mkF m 134 #[.val (.ref o), .val (.ref a), .val (.double x), .second, .val (.double y), .second, .val (.int f), .val (.int (1 : Int32))] [(.ref b102), (.ref o)])) rfl rfl (hb hby own_d1_134)
  refine own_st st117 ?_
  show own_Go _ _ _ _ _ (State.setTop _ (mkF _ 137 #[.val (.ref o), .val (.ref a), .val (.double x), .second, .val (.double y), .second, .val (.int f), .val (.int (1 : Int32))] [(.ref b102), (.ref o)]))
  refine own_putF X117 hx hZ (host := "") hown (Or.inl (own_hw hw 21 rfl)) Via.refl e117 f108 f107 (Or.inr ⟨(own_hw hw 22 rfl), rfl, hnm⟩) (own_hw hw 4 rfl) (ty := (.array .int)) (by decide) rfl rfl 140 rfl (hb hby own_d1_137) fun T118 h118 X118 e118 W118 => ?_
  have f119 := f107.wr W118
  have f120 := f109.other W118 (Or.inr (slot_ne (Or.inr (own_hw hw 24 rfl)) (Or.inr (own_hw hw 22 rfl)) (by decide) (t := .double) (t' := (.array .int)) (by decide) (by decide)))
  have f121 := f110.other W118 (Or.inr (slot_ne (Or.inr (own_hw hw 26 rfl)) (Or.inr (own_hw hw 22 rfl)) (by decide) (t := .double) (t' := (.array .int)) (by decide) (by decide)))
  have f122 := f111.other W118 (Or.inr (slot_ne (Or.inr (own_hw hw 28 rfl)) (Or.inr (own_hw hw 22 rfl)) (by decide) (t := .int) (t' := (.array .int)) (by decide) (by decide)))
  have f123 := f116.other W118 (Ne.symm ne103)
  have f124 := C102.wr W118
  have z125 := Nat.le_trans z114 (Keep.of_wr W118).1
  have K126 := K115.wr W118 (Or.inl (List.mem_of_getElem? (i := 0) rfl))
  have f127 := f108.same W118
  have N128 := Fr.snoc X118 N0 g_o
  refine own_aloadN X118 hx 141 rfl (hb hby own_d1_140) rfl rfl ?_
  refine own_dloadN X118 hx 142 rfl (hb hby own_d1_141) rfl ?_
  refine own_putF X118 hx hZ (host := "") hown (Or.inl (own_hw hw 23 rfl)) Via.refl e118 f120 f119 (Or.inr ⟨(own_hw hw 24 rfl), rfl, hnm⟩) (own_hw hw 4 rfl) (ty := .double) (by decide) rfl rfl 145 rfl (hb hby own_d1_142) fun T129 h129 X129 e129 W129 => ?_
  have f130 := f119.wr W129
  have f131 := f121.other W129 (Or.inr (slot_ne (Or.inr (own_hw hw 26 rfl)) (Or.inr (own_hw hw 24 rfl)) (by decide) (t := .double) (t' := .double) (by decide) (by decide)))
  have f132 := f122.other W129 (Or.inr (slot_ne (Or.inr (own_hw hw 28 rfl)) (Or.inr (own_hw hw 24 rfl)) (by decide) (t := .int) (t' := .double) (by decide) (by decide)))
  have f133 := f123.other W129 (Ne.symm ne103)
  have f134 := f124.wr W129
  have f135 := f127.other W129 (Or.inr (slot_ne (Or.inr (own_hw hw 22 rfl)) (Or.inr (own_hw hw 24 rfl)) (by decide) (t := (.array .int)) (t' := .double) (by decide) (by decide)))
  have z136 := Nat.le_trans z125 (Keep.of_wr W129).1
  have K137 := K126.wr W129 (Or.inl (List.mem_of_getElem? (i := 0) rfl))
  have f138 := f120.same W129
  have N139 := Fr.snoc X129 N128 g_o
  refine own_aloadN X129 hx 146 rfl (hb hby own_d1_145) rfl rfl ?_
  refine own_dload X129 hx 148 rfl (hb hby own_d1_146) rfl ?_
  refine own_putF X129 hx hZ (host := "") hown (Or.inl (own_hw hw 25 rfl)) Via.refl e129 f131 f130 (Or.inr ⟨(own_hw hw 26 rfl), rfl, hnm⟩) (own_hw hw 4 rfl) (ty := .double) (by decide) rfl rfl 151 rfl (hb hby own_d1_148) fun T140 h140 X140 e140 W140 => ?_
  have f141 := f130.wr W140
  have f142 := f132.other W140 (Or.inr (slot_ne (Or.inr (own_hw hw 28 rfl)) (Or.inr (own_hw hw 26 rfl)) (by decide) (t := .int) (t' := .double) (by decide) (by decide)))
  have f143 := f133.other W140 (Ne.symm ne103)
  have f144 := f134.wr W140
  have f145 := f135.other W140 (Or.inr (slot_ne (Or.inr (own_hw hw 22 rfl)) (Or.inr (own_hw hw 26 rfl)) (by decide) (t := (.array .int)) (t' := .double) (by decide) (by decide)))
  have f146 := f138.other W140 (Or.inr (slot_ne (Or.inr (own_hw hw 24 rfl)) (Or.inr (own_hw hw 26 rfl)) (by decide) (t := .double) (t' := .double) (by decide) (by decide)))
  have z147 := Nat.le_trans z136 (Keep.of_wr W140).1
  have K148 := K137.wr W140 (Or.inl (List.mem_of_getElem? (i := 0) rfl))
  have f149 := f131.same W140
  have N150 := Fr.snoc X140 N139 g_o
  refine own_aloadN X140 hx 152 rfl (hb hby own_d1_151) rfl rfl ?_
  refine own_iload X140 hx 154 rfl (hb hby own_d1_152) rfl ?_
  refine own_putF X140 hx hZ (host := "") hown (Or.inl (own_hw hw 27 rfl)) Via.refl e140 f142 f141 (Or.inr ⟨(own_hw hw 28 rfl), rfl, hnm⟩) (own_hw hw 4 rfl) (ty := .int) (by decide) rfl rfl 157 rfl (hb hby own_d1_154) fun T151 h151 X151 e151 W151 => ?_
  have f152 := f141.wr W151
  have f153 := f143.other W151 (Ne.symm ne103)
  have f154 := f144.wr W151
  have f155 := f145.other W151 (Or.inr (slot_ne (Or.inr (own_hw hw 22 rfl)) (Or.inr (own_hw hw 28 rfl)) (by decide) (t := (.array .int)) (t' := .int) (by decide) (by decide)))
  have f156 := f146.other W151 (Or.inr (slot_ne (Or.inr (own_hw hw 24 rfl)) (Or.inr (own_hw hw 28 rfl)) (by decide) (t := .double) (t' := .int) (by decide) (by decide)))
  have f157 := f149.other W151 (Or.inr (slot_ne (Or.inr (own_hw hw 26 rfl)) (Or.inr (own_hw hw 28 rfl)) (by decide) (t := .double) (t' := .int) (by decide) (by decide)))
  have z158 := Nat.le_trans z147 (Keep.of_wr W151).1
  have K159 := K148.wr W151 (Or.inl (List.mem_of_getElem? (i := 0) rfl))
  have f160 := f142.same W151
  have N161 := Fr.snoc X151 N150 g_o
  refine own_ret X151 none (fun _ => rfl) Bd.notSynchronized (by decide) (by decide) ?_ (fun fs hr => X151.returnOut hx Bd.returns (hb hby own_d1_157) hr)
  show Q_rm_init1 Z o a x y f k v0 h0 n0 _ T151.heap _
  rw [e151]
  exact ⟨rfl, N161, K159, f152, f156, f157⟩
theorem own_ef_rm_init2 (m : MethodId) (o : Addr) (a : Addr) (x : UInt64) (y : UInt64) (f : Int32) : entryFrame m #[(.ref o), (.ref a), (.double x), (.double y), (.int f)] 8 = mkF m 0 #[.val (.ref o), .val (.ref a), .val (.double x), .second, .val (.double y), .second, .val (.int f), .unset] [] := by first | (simp [entryFrame, mkF, argsToLocals, Value.category]; done) | rfl
def Q_rm_init2 (Z : State) (o : Addr) (a : Addr) (x : UInt64) (y : UInt64) (f : Int32) (k : ClassId) (v0 : Int32) (v1 : Int32) (h0 : Heap) (n0 : Nat) (v : Option Value) (h : Heap) (L : List Loc) : Prop := v = none ∧ Fr n0 L ∧ Keep h0 h [o] ∧ Exa Z h o "com/example/outpost/outpost/model/Placement" ∧ Fld Z h o "com/example/outpost/outpost/model/Placement" "radius" "D" (.double x) ∧ Fld Z h o "com/example/outpost/outpost/model/Placement" "lowerBound" "D" (.double y)
theorem own_d1_42 : decode prog_70_method_1_code 42 = .ok (.aload_n 1, 1) := by decide +kernel
theorem own_d1_43 : decode prog_70_method_1_code 43 = .ok (.iload 7, 2) := by decide +kernel
theorem own_d1_45 : decode prog_70_method_1_code 45 = .ok (.iconst 1, 1) := by decide +kernel
theorem own_d1_46 : decode prog_70_method_1_code 46 = .ok (.isub, 1) := by decide +kernel
theorem own_d1_47 : decode prog_70_method_1_code 47 = .ok (.iaload, 1) := by decide +kernel
theorem own_d1_48 : decode prog_70_method_1_code 48 = .ok (.aload_n 1, 1) := by decide +kernel
theorem own_d1_49 : decode prog_70_method_1_code 49 = .ok (.iload 7, 2) := by decide +kernel
theorem own_d1_51 : decode prog_70_method_1_code 51 = .ok (.iaload, 1) := by decide +kernel
theorem own_d1_52 : decode prog_70_method_1_code 52 = .ok (.if_icmp .lt 20, 3) := by decide +kernel
theorem own_d1_72 : decode prog_70_method_1_code 72 = .ok (.iinc 7 1, 3) := by decide +kernel
theorem own_d1_75 : decode prog_70_method_1_code 75 = .ok (.goto (-40), 3) := by decide +kernel
set_option maxRecDepth 65536 in
set_option maxHeartbeats 40000000 in
theorem rm_init2 (l : Launch) (Z : State) (a0 : Array Value) (hw : ∀ d ∈ tables_1, d.before a0 Z = true) (ws : List Jvm.Cond) (o : Addr) (a : Addr) (x : UInt64) (y : UInt64) (f : Int32) (k : ClassId) (v0 : Int32) (v1 : Int32) (h0 : Heap) (n0 : Nat) (Z0 : n0 ≤ h0.size) (E1 : Exa Z h0 o "com/example/outpost/outpost/model/Placement") (F_centers : Fld Z h0 o "com/example/outpost/outpost/model/Placement" "centers" "[I" .null) (F_radius : Fld Z h0 o "com/example/outpost/outpost/model/Placement" "radius" "D" (.double (0 : UInt64))) (F_lowerBound : Fld Z h0 o "com/example/outpost/outpost/model/Placement" "lowerBound" "D" (.double (0 : UInt64))) (F_factor : Fld Z h0 o "com/example/outpost/outpost/model/Placement" "factor" "I" (.int (0 : Int32))) (g_o : n0 ≤ o) (V1 : Arv Z h0 a k .int (2 : Int32) [(.int v0), (.int v1)] (.int (0 : Int32))) (E2 : Exa Z h0 a "[I") (hv0 : ¬ v0 < 0) (hv1 : v0 < v1) (hc1 : ¬ 0 < cmpValue (FP.dcmp FP.dconst0 y) .g) (hc2 : ¬ 0 < cmpValue (FP.dcmp y x) .g) (hf : ¬ f < 1) :
    MetFree l (⟨"com/example/outpost/outpost/model/Placement", "<init>", "([IDDI)V"⟩ : MethodName) (head1 (Jvm.Cond.code (⟨"com/example/outpost/outpost/model/Placement", "<init>", "([IDDI)V"⟩ : MethodName) prog_70_method_1_code 8 none :: ws) ({ frames := 1, cells := 1, slots := 2, locals := 20 } : Room)) (fun aa U => aa = #[(.ref o), (.ref a), (.double x), (.double y), (.int f)] ∧ Z.Warmed39 U.vm ∧ U.heap = h0) (fun _ _ _ _ _ => True) (fun _ U ou U' => ∃ v L, ou = .returned v ∧ Q_rm_init2 Z o a x y f k v0 v1 h0 n0 v U'.heap L ∧ FrameEnd U ou U' L ({ frames := 1, cells := 1, slots := 2, locals := 20 } : Room).cells ({ frames := 1, cells := 1, slots := 2, locals := 20 } : Room).slots) := by
  refine MetFree.of_bodySF (plainFor_of_name own_pn0) hisR ?_
  intro p e s m args below meth c s₁ Bd hml0 hP hK
  obtain ⟨rfl, hZ, hh⟩ := hP
  have hx := Bd.exec
  have hby := Bd.bytes
  have hml : c.maxLocals = 8 := hml0
  have hown : s.vm.findClass "com/example/outpost/outpost/model/Placement" = some m.cls := findClass_of_methodNamed Bd.named
  have hnm := (name_of_methodNamed Bd.named Bd.method).1
  have X0 : Stand p l e ({ frames := 1, cells := 1, slots := 2, locals := 20 } : Room) s m #[(.ref o), (.ref a), (.double x), (.double y), (.int f)] below meth c s₁ [] 0 0 := Stand.of_body Bd
  have e0 : s₁.heap = h0 := by rw [← hh, Bd.state]; rfl
  have N0 := Fr.nil n0
  have K0 := Keep.refl h0 [o]
  show own_Go p e below (fun o u L => FrameEnd s o u L ({ frames := 1, cells := 1, slots := 2, locals := 20 } : Room).cells ({ frames := 1, cells := 1, slots := 2, locals := 20 } : Room).slots) (Q_rm_init2 Z o a x y f k v0 v1 h0 n0) (s₁.setTop (entryFrame m #[(.ref o), (.ref a), (.double x), (.double y), (.int f)] 8))
  rw [own_ef_rm_init2 m o a x y f]
  show own_Go _ _ _ _ _ (State.setTop _ (mkF _ 0 #[.val (.ref o), .val (.ref a), .val (.double x), .second, .val (.double y), .second, .val (.int f), .unset] []))
  refine own_aloadN X0 hx 1 rfl (hb hby own_d1_0) rfl rfl ?_
  refine own_initO X0 hx hZ hown (own_hw hw 9 rfl) (own_hw hw 10 rfl) (own_hw hw 11 rfl) e0 (by rw [hml]; rfl) 4 rfl (hb hby own_d1_1) (by decide) 0 (Nat.le_of_eq rfl) (by decide) fun T162 X162 e162 => ?_
  refine own_aloadN X162 hx 5 rfl (hb hby own_d1_4) rfl rfl ?_
  refine own_len X162 hx hZ e162 V1 6 rfl (hb hby own_d1_5) ?_
  refine own_ifNo X162 hx 9 rfl (hb hby own_d1_6) (by decide) ?_
  refine own_aloadN X162 hx 10 rfl (hb hby own_d1_9) rfl rfl ?_
  refine own_iconst X162 hx 11 rfl (hb hby own_d1_10) (0 : Int32) rfl ?_
  refine own_ldI X162 hx hZ e162 V1 ⟨by decide, by decide⟩ v0 rfl 12 rfl (hb hby own_d1_11) ?_
  refine own_ifYes X162 hx 32 (hb hby own_d1_12) ((if0 _ _).trans (flt hv0).2.1) (by decide) rfl ?_
  refine own_iconst X162 hx 33 rfl (hb hby own_d1_32) (1 : Int32) rfl ?_
  refine own_istore X162 hx 35 rfl (hb hby own_d1_33) #[.val (.ref o), .val (.ref a), .val (.double x), .second, .val (.double y), .second, .val (.int f), .val (.int (1 : Int32))] rfl ?_
  refine own_iload X162 hx 37 rfl (hb hby own_d1_35) rfl ?_
  refine own_aloadN X162 hx 38 rfl (hb hby own_d1_37) rfl rfl ?_
  refine own_len X162 hx hZ e162 V1 39 rfl (hb hby own_d1_38) ?_
  refine own_icmpNo X162 hx 42 rfl (hb hby own_d1_39) (by decide) ?_
  refine own_aloadN X162 hx 43 rfl (hb hby own_d1_42) rfl rfl ?_
  refine own_iload X162 hx 45 rfl (hb hby own_d1_43) rfl ?_
  refine own_iconst X162 hx 46 rfl (hb hby own_d1_45) (1 : Int32) rfl ?_
  refine own_isub X162 hx 47 rfl (hb hby own_d1_46) (0 : Int32) rfl ?_
  refine own_ldI X162 hx hZ e162 V1 ⟨by decide, by decide⟩ v0 rfl 48 rfl (hb hby own_d1_47) ?_
  refine own_aloadN X162 hx 49 rfl (hb hby own_d1_48) rfl rfl ?_
  refine own_iload X162 hx 51 rfl (hb hby own_d1_49) rfl ?_
  refine own_ldI X162 hx hZ e162 V1 ⟨by decide, by decide⟩ v1 rfl 52 rfl (hb hby own_d1_51) ?_
  refine own_icmpYes X162 hx 72 (hb hby own_d1_52) (tlt hv1).1 (by decide) rfl ?_
  refine own_iinc X162 hx 75 rfl (hb hby own_d1_72) rfl #[.val (.ref o), .val (.ref a), .val (.double x), .second, .val (.double y), .second, .val (.int f), .val (.int (2 : Int32))] rfl ?_
  refine own_goto X162 hx 35 (hb hby own_d1_75) (by decide) rfl ?_
  refine own_iload X162 hx 37 rfl (hb hby own_d1_35) rfl ?_
  refine own_aloadN X162 hx 38 rfl (hb hby own_d1_37) rfl rfl ?_
  refine own_len X162 hx hZ e162 V1 39 rfl (hb hby own_d1_38) ?_
  refine own_icmpYes X162 hx 78 (hb hby own_d1_39) (by decide) (by decide) rfl ?_
  refine own_dconst0 X162 hx 79 rfl (hb hby own_d1_78) ?_
  refine own_dload X162 hx 81 rfl (hb hby own_d1_79) rfl ?_
  refine own_dcmp X162 hx 82 rfl (hb hby own_d1_81) _ rfl ?_
  refine own_ifNo X162 hx 85 rfl (hb hby own_d1_82) ((if0 _ _).trans (flt hc1).2.2.1) ?_
  refine own_dload X162 hx 87 rfl (hb hby own_d1_85) rfl ?_
  refine own_dloadN X162 hx 88 rfl (hb hby own_d1_87) rfl ?_
  refine own_dcmp X162 hx 89 rfl (hb hby own_d1_88) _ rfl ?_
  refine own_ifYes X162 hx 108 (hb hby own_d1_89) ((if0 _ _).trans (flt hc2).2.2.2) (by decide) rfl ?_
  refine own_iload X162 hx 110 rfl (hb hby own_d1_108) rfl ?_
  refine own_iconst X162 hx 111 rfl (hb hby own_d1_110) (1 : Int32) rfl ?_
  refine own_icmpYes X162 hx 129 (hb hby own_d1_111) (flt hf).2.1 (by decide) rfl ?_
  refine own_aloadN X162 hx 130 rfl (hb hby own_d1_129) rfl rfl ?_
  refine own_aloadN X162 hx 131 rfl (hb hby own_d1_130) rfl rfl ?_
  obtain ⟨T163, h163, X163, e163, E163, A163, C163, st163⟩ := cloneH X162 hx hZ hown (own_hw hw 12 rfl) (own_hw hw 13 rfl) (own_hw hw 17 rfl) (own_hw hw 15 rfl) (own_hw hw 16 rfl) (own_hw hw 18 rfl) e162 (Arv.arh V1) E2 (g := (mkF m 131 #[.val (.ref o), .val (.ref a), .val (.double x), .second, .val (.double y), .second, .val (.int f), .val (.int (2 : Int32))] [(.ref a), (.ref o)])) rfl (by rw [hml]; rfl) rfl (hb hby own_d1_131) (by decide) (W := 1) (cap := 2) (by show 2 * 0 + _ ≤ _; exact Nat.le_of_eq rfl) (by decide) (by decide) (by decide) (by decide)
  obtain ⟨b163, g163⟩ : ∃ z, z = h0.size := ⟨_, rfl⟩
  have ne164 : o ≠ b163 := Nat.ne_of_lt (Nat.lt_of_lt_of_le E1.lt (Nat.le_of_eq g163.symm))
  have ne165 : a ≠ b163 := Nat.ne_of_lt (Nat.lt_of_lt_of_le V1.lt (Nat.le_of_eq g163.symm))
  have ge166 : n0 ≤ b163 := Nat.le_trans Z0 (Nat.le_of_eq g163.symm)
  have sz167 : h0.size ≤ b163 := Nat.le_trans K0.1 (Nat.le_of_eq g163.symm)
  rw [← g163] at A163 C163 st163
  have f168 := E1.ext E163
  have f169 := F_centers.ext E163
  have f170 := F_radius.ext E163
  have f171 := F_lowerBound.ext E163
  have f172 := F_factor.ext E163
  have f173 := V1.ext E163
  have f174 := E2.ext E163
  have z175 := Nat.le_trans Z0 E163.1
  have K176 := K0.ext E163
  have f177 : Arv Z h163 b163 k .int (2 : Int32) [(.int v0), (.int v1)] (.int (0 : Int32)) := A163
  refine own_st st163 ?_
  show own_Go _ _ _ _ _ (State.setTop _ (mkF _ 134 #[.val (.ref o), .val (.ref a), .val (.double x), .second, .val (.double y), .second, .val (.int f), .val (.int (2 : Int32))] [(.ref b163), (.ref o)]))
  obtain ⟨T178, X178, e178, st178⟩ := castY X163 hx hZ hown (own_hw hw 19 rfl) e163 (Ins.self C163) (g := (mkF m 134 #[.val (.ref o), .val (.ref a), .val (.double x), .second, .val (.double y), .second, .val (.int f), .val (.int (2 : Int32))] [(.ref b163), (.ref o)])) rfl rfl (hb hby own_d1_134)
  refine own_st st178 ?_
  show own_Go _ _ _ _ _ (State.setTop _ (mkF _ 137 #[.val (.ref o), .val (.ref a), .val (.double x), .second, .val (.double y), .second, .val (.int f), .val (.int (2 : Int32))] [(.ref b163), (.ref o)]))
  refine own_putF X178 hx hZ (host := "") hown (Or.inl (own_hw hw 21 rfl)) Via.refl e178 f169 f168 (Or.inr ⟨(own_hw hw 22 rfl), rfl, hnm⟩) (own_hw hw 4 rfl) (ty := (.array .int)) (by decide) rfl rfl 140 rfl (hb hby own_d1_137) fun T179 h179 X179 e179 W179 => ?_
  have f180 := f168.wr W179
  have f181 := f170.other W179 (Or.inr (slot_ne (Or.inr (own_hw hw 24 rfl)) (Or.inr (own_hw hw 22 rfl)) (by decide) (t := .double) (t' := (.array .int)) (by decide) (by decide)))
  have f182 := f171.other W179 (Or.inr (slot_ne (Or.inr (own_hw hw 26 rfl)) (Or.inr (own_hw hw 22 rfl)) (by decide) (t := .double) (t' := (.array .int)) (by decide) (by decide)))
  have f183 := f172.other W179 (Or.inr (slot_ne (Or.inr (own_hw hw 28 rfl)) (Or.inr (own_hw hw 22 rfl)) (by decide) (t := .int) (t' := (.array .int)) (by decide) (by decide)))
  have f184 := f177.other W179 (Ne.symm ne164)
  have f185 := C163.wr W179
  have z186 := Nat.le_trans z175 (Keep.of_wr W179).1
  have K187 := K176.wr W179 (Or.inl (List.mem_of_getElem? (i := 0) rfl))
  have f188 := f169.same W179
  have N189 := Fr.snoc X179 N0 g_o
  refine own_aloadN X179 hx 141 rfl (hb hby own_d1_140) rfl rfl ?_
  refine own_dloadN X179 hx 142 rfl (hb hby own_d1_141) rfl ?_
  refine own_putF X179 hx hZ (host := "") hown (Or.inl (own_hw hw 23 rfl)) Via.refl e179 f181 f180 (Or.inr ⟨(own_hw hw 24 rfl), rfl, hnm⟩) (own_hw hw 4 rfl) (ty := .double) (by decide) rfl rfl 145 rfl (hb hby own_d1_142) fun T190 h190 X190 e190 W190 => ?_
  have f191 := f180.wr W190
  have f192 := f182.other W190 (Or.inr (slot_ne (Or.inr (own_hw hw 26 rfl)) (Or.inr (own_hw hw 24 rfl)) (by decide) (t := .double) (t' := .double) (by decide) (by decide)))
  have f193 := f183.other W190 (Or.inr (slot_ne (Or.inr (own_hw hw 28 rfl)) (Or.inr (own_hw hw 24 rfl)) (by decide) (t := .int) (t' := .double) (by decide) (by decide)))
  have f194 := f184.other W190 (Ne.symm ne164)
  have f195 := f185.wr W190
  have f196 := f188.other W190 (Or.inr (slot_ne (Or.inr (own_hw hw 22 rfl)) (Or.inr (own_hw hw 24 rfl)) (by decide) (t := (.array .int)) (t' := .double) (by decide) (by decide)))
  have z197 := Nat.le_trans z186 (Keep.of_wr W190).1
  have K198 := K187.wr W190 (Or.inl (List.mem_of_getElem? (i := 0) rfl))
  have f199 := f181.same W190
  have N200 := Fr.snoc X190 N189 g_o
  refine own_aloadN X190 hx 146 rfl (hb hby own_d1_145) rfl rfl ?_
  refine own_dload X190 hx 148 rfl (hb hby own_d1_146) rfl ?_
  refine own_putF X190 hx hZ (host := "") hown (Or.inl (own_hw hw 25 rfl)) Via.refl e190 f192 f191 (Or.inr ⟨(own_hw hw 26 rfl), rfl, hnm⟩) (own_hw hw 4 rfl) (ty := .double) (by decide) rfl rfl 151 rfl (hb hby own_d1_148) fun T201 h201 X201 e201 W201 => ?_
  have f202 := f191.wr W201
  have f203 := f193.other W201 (Or.inr (slot_ne (Or.inr (own_hw hw 28 rfl)) (Or.inr (own_hw hw 26 rfl)) (by decide) (t := .int) (t' := .double) (by decide) (by decide)))
  have f204 := f194.other W201 (Ne.symm ne164)
  have f205 := f195.wr W201
  have f206 := f196.other W201 (Or.inr (slot_ne (Or.inr (own_hw hw 22 rfl)) (Or.inr (own_hw hw 26 rfl)) (by decide) (t := (.array .int)) (t' := .double) (by decide) (by decide)))
  have f207 := f199.other W201 (Or.inr (slot_ne (Or.inr (own_hw hw 24 rfl)) (Or.inr (own_hw hw 26 rfl)) (by decide) (t := .double) (t' := .double) (by decide) (by decide)))
  have z208 := Nat.le_trans z197 (Keep.of_wr W201).1
  have K209 := K198.wr W201 (Or.inl (List.mem_of_getElem? (i := 0) rfl))
  have f210 := f192.same W201
  have N211 := Fr.snoc X201 N200 g_o
  refine own_aloadN X201 hx 152 rfl (hb hby own_d1_151) rfl rfl ?_
  refine own_iload X201 hx 154 rfl (hb hby own_d1_152) rfl ?_
  refine own_putF X201 hx hZ (host := "") hown (Or.inl (own_hw hw 27 rfl)) Via.refl e201 f203 f202 (Or.inr ⟨(own_hw hw 28 rfl), rfl, hnm⟩) (own_hw hw 4 rfl) (ty := .int) (by decide) rfl rfl 157 rfl (hb hby own_d1_154) fun T212 h212 X212 e212 W212 => ?_
  have f213 := f202.wr W212
  have f214 := f204.other W212 (Ne.symm ne164)
  have f215 := f205.wr W212
  have f216 := f206.other W212 (Or.inr (slot_ne (Or.inr (own_hw hw 22 rfl)) (Or.inr (own_hw hw 28 rfl)) (by decide) (t := (.array .int)) (t' := .int) (by decide) (by decide)))
  have f217 := f207.other W212 (Or.inr (slot_ne (Or.inr (own_hw hw 24 rfl)) (Or.inr (own_hw hw 28 rfl)) (by decide) (t := .double) (t' := .int) (by decide) (by decide)))
  have f218 := f210.other W212 (Or.inr (slot_ne (Or.inr (own_hw hw 26 rfl)) (Or.inr (own_hw hw 28 rfl)) (by decide) (t := .double) (t' := .int) (by decide) (by decide)))
  have z219 := Nat.le_trans z208 (Keep.of_wr W212).1
  have K220 := K209.wr W212 (Or.inl (List.mem_of_getElem? (i := 0) rfl))
  have f221 := f203.same W212
  have N222 := Fr.snoc X212 N211 g_o
  refine own_ret X212 none (fun _ => rfl) Bd.notSynchronized (by decide) (by decide) ?_ (fun fs hr => X212.returnOut hx Bd.returns (hb hby own_d1_157) hr)
  show Q_rm_init2 Z o a x y f k v0 v1 h0 n0 _ T212.heap _
  rw [e212]
  exact ⟨rfl, N222, K220, f213, f217, f218⟩
theorem own_ef_rm_exact (m : MethodId) (o : Addr) : entryFrame m #[(.ref o)] 1 = mkF m 0 #[.val (.ref o)] [] := by first | (simp [entryFrame, mkF, argsToLocals, Value.category]; done) | rfl
def Q_rm_exact (Z : State) (o : Addr) (x : UInt64) (y : UInt64) (h0 : Heap) (n0 : Nat) (v : Option Value) (h : Heap) (L : List Loc) : Prop := v = some (.int (1 : Int32)) ∧ Fr n0 L ∧ h = h0
theorem own_d3_0 : decode prog_70_method_6_code 0 = .ok (.aload_n 0, 1) := by decide +kernel
theorem own_d3_1 : decode prog_70_method_6_code 1 = .ok (.getfield 44, 3) := by decide +kernel
theorem own_d3_4 : decode prog_70_method_6_code 4 = .ok (.aload_n 0, 1) := by decide +kernel
theorem own_d3_5 : decode prog_70_method_6_code 5 = .ok (.getfield 40, 3) := by decide +kernel
theorem own_d3_8 : decode prog_70_method_6_code 8 = .ok (.dcmp .l, 1) := by decide +kernel
theorem own_d3_9 : decode prog_70_method_6_code 9 = .ok (.ifCond .ne 7, 3) := by decide +kernel
theorem own_d3_12 : decode prog_70_method_6_code 12 = .ok (.iconst 1, 1) := by decide +kernel
theorem own_d3_13 : decode prog_70_method_6_code 13 = .ok (.goto 4, 3) := by decide +kernel
theorem own_d3_17 : decode prog_70_method_6_code 17 = .ok (.ireturn, 1) := by decide +kernel
set_option maxRecDepth 65536 in
set_option maxHeartbeats 40000000 in
theorem rm_exact (l : Launch) (Z : State) (a0 : Array Value) (hw : ∀ d ∈ tables_1, d.before a0 Z = true) (ws : List Jvm.Cond) (o : Addr) (x : UInt64) (y : UInt64) (h0 : Heap) (n0 : Nat) (Z0 : n0 ≤ h0.size) (F1 : Fld Z h0 o "com/example/outpost/outpost/model/Placement" "radius" "D" (.double x)) (F2 : Fld Z h0 o "com/example/outpost/outpost/model/Placement" "lowerBound" "D" (.double y)) (hc : cmpValue (FP.dcmp y x) .l = (0 : Int32)) :
    MetFree l (⟨"com/example/outpost/outpost/model/Placement", "isExact", "()Z"⟩ : MethodName) (head1 (Jvm.Cond.code (⟨"com/example/outpost/outpost/model/Placement", "isExact", "()Z"⟩ : MethodName) prog_70_method_6_code 1 (some .boolean) :: ws) ({ frames := 0, cells := 0, slots := 0, locals := 0 } : Room)) (fun aa U => aa = #[(.ref o)] ∧ Z.Warmed39 U.vm ∧ U.heap = h0) (fun _ _ _ _ _ => True) (fun _ U ou U' => ∃ v L, ou = .returned v ∧ Q_rm_exact Z o x y h0 n0 v U'.heap L ∧ FrameEnd U ou U' L ({ frames := 0, cells := 0, slots := 0, locals := 0 } : Room).cells ({ frames := 0, cells := 0, slots := 0, locals := 0 } : Room).slots) := by
  refine MetFree.of_bodySF (plainFor_of_name own_pn0) hisR ?_
  intro p e s m args below meth c s₁ Bd hml0 hP hK
  obtain ⟨rfl, hZ, hh⟩ := hP
  have hx := Bd.exec
  have hby := Bd.bytes
  have hml : c.maxLocals = 1 := hml0
  have hown : s.vm.findClass "com/example/outpost/outpost/model/Placement" = some m.cls := findClass_of_methodNamed Bd.named
  have hnm := (name_of_methodNamed Bd.named Bd.method).1
  have X0 : Stand p l e ({ frames := 0, cells := 0, slots := 0, locals := 0 } : Room) s m #[(.ref o)] below meth c s₁ [] 0 0 := Stand.of_body Bd
  have e0 : s₁.heap = h0 := by rw [← hh, Bd.state]; rfl
  have N0 := Fr.nil n0
  show own_Go p e below (fun o u L => FrameEnd s o u L ({ frames := 0, cells := 0, slots := 0, locals := 0 } : Room).cells ({ frames := 0, cells := 0, slots := 0, locals := 0 } : Room).slots) (Q_rm_exact Z o x y h0 n0) (s₁.setTop (entryFrame m #[(.ref o)] 1))
  rw [own_ef_rm_exact m o]
  show own_Go _ _ _ _ _ (State.setTop _ (mkF _ 0 #[.val (.ref o)] []))
  refine own_aloadN X0 hx 1 rfl (hb hby own_d3_0) rfl rfl ?_
  refine own_getF X0 hx hZ (host := "") hown (Or.inl (own_hw hw 25 rfl)) Via.refl e0 F2 4 rfl (hb hby own_d3_1) fun T223 X223 e223 => ?_
  refine own_aloadN X223 hx 5 rfl (hb hby own_d3_4) rfl rfl ?_
  refine own_getF X223 hx hZ (host := "") hown (Or.inl (own_hw hw 23 rfl)) Via.refl e223 F1 8 rfl (hb hby own_d3_5) fun T224 X224 e224 => ?_
  refine own_dcmp X224 hx 9 rfl (hb hby own_d3_8) (0 : Int32) hc ?_
  refine own_ifNo X224 hx 12 rfl (hb hby own_d3_9) (by decide) ?_
  refine own_iconst X224 hx 13 rfl (hb hby own_d3_12) (1 : Int32) rfl ?_
  refine own_goto X224 hx 17 (hb hby own_d3_13) (by decide) rfl ?_
  refine own_ret X224 (some (.int (1 : Int32))) (fun h => by rw [Bd.returns] at h; cases h) Bd.notSynchronized (by decide) (by decide) ?_ (fun fs hr => retN X224 hx (t := .boolean) Bd.returns (by simp) (hb hby own_d3_17) hr)
  show Q_rm_exact Z o x y h0 n0 _ T224.heap _
  rw [e224]
  exact ⟨rfl, N0, rfl⟩
theorem own_ef_rm_inexact (m : MethodId) (o : Addr) : entryFrame m #[(.ref o)] 1 = mkF m 0 #[.val (.ref o)] [] := by first | (simp [entryFrame, mkF, argsToLocals, Value.category]; done) | rfl
def Q_rm_inexact (Z : State) (o : Addr) (x : UInt64) (y : UInt64) (h0 : Heap) (n0 : Nat) (v : Option Value) (h : Heap) (L : List Loc) : Prop := v = some (.int (0 : Int32)) ∧ Fr n0 L ∧ h = h0
theorem own_d3_16 : decode prog_70_method_6_code 16 = .ok (.iconst 0, 1) := by decide +kernel
set_option maxRecDepth 65536 in
set_option maxHeartbeats 40000000 in
theorem rm_inexact (l : Launch) (Z : State) (a0 : Array Value) (hw : ∀ d ∈ tables_1, d.before a0 Z = true) (ws : List Jvm.Cond) (o : Addr) (x : UInt64) (y : UInt64) (h0 : Heap) (n0 : Nat) (Z0 : n0 ≤ h0.size) (F1 : Fld Z h0 o "com/example/outpost/outpost/model/Placement" "radius" "D" (.double x)) (F2 : Fld Z h0 o "com/example/outpost/outpost/model/Placement" "lowerBound" "D" (.double y)) (hc : cmpValue (FP.dcmp y x) .l = (-1 : Int32)) :
    MetFree l (⟨"com/example/outpost/outpost/model/Placement", "isExact", "()Z"⟩ : MethodName) (head1 (Jvm.Cond.code (⟨"com/example/outpost/outpost/model/Placement", "isExact", "()Z"⟩ : MethodName) prog_70_method_6_code 1 (some .boolean) :: ws) ({ frames := 0, cells := 0, slots := 0, locals := 0 } : Room)) (fun aa U => aa = #[(.ref o)] ∧ Z.Warmed39 U.vm ∧ U.heap = h0) (fun _ _ _ _ _ => True) (fun _ U ou U' => ∃ v L, ou = .returned v ∧ Q_rm_inexact Z o x y h0 n0 v U'.heap L ∧ FrameEnd U ou U' L ({ frames := 0, cells := 0, slots := 0, locals := 0 } : Room).cells ({ frames := 0, cells := 0, slots := 0, locals := 0 } : Room).slots) := by
  refine MetFree.of_bodySF (plainFor_of_name own_pn0) hisR ?_
  intro p e s m args below meth c s₁ Bd hml0 hP hK
  obtain ⟨rfl, hZ, hh⟩ := hP
  have hx := Bd.exec
  have hby := Bd.bytes
  have hml : c.maxLocals = 1 := hml0
  have hown : s.vm.findClass "com/example/outpost/outpost/model/Placement" = some m.cls := findClass_of_methodNamed Bd.named
  have hnm := (name_of_methodNamed Bd.named Bd.method).1
  have X0 : Stand p l e ({ frames := 0, cells := 0, slots := 0, locals := 0 } : Room) s m #[(.ref o)] below meth c s₁ [] 0 0 := Stand.of_body Bd
  have e0 : s₁.heap = h0 := by rw [← hh, Bd.state]; rfl
  have N0 := Fr.nil n0
  show own_Go p e below (fun o u L => FrameEnd s o u L ({ frames := 0, cells := 0, slots := 0, locals := 0 } : Room).cells ({ frames := 0, cells := 0, slots := 0, locals := 0 } : Room).slots) (Q_rm_inexact Z o x y h0 n0) (s₁.setTop (entryFrame m #[(.ref o)] 1))
  rw [own_ef_rm_inexact m o]
  show own_Go _ _ _ _ _ (State.setTop _ (mkF _ 0 #[.val (.ref o)] []))
  refine own_aloadN X0 hx 1 rfl (hb hby own_d3_0) rfl rfl ?_
  refine own_getF X0 hx hZ (host := "") hown (Or.inl (own_hw hw 25 rfl)) Via.refl e0 F2 4 rfl (hb hby own_d3_1) fun T225 X225 e225 => ?_
  refine own_aloadN X225 hx 5 rfl (hb hby own_d3_4) rfl rfl ?_
  refine own_getF X225 hx hZ (host := "") hown (Or.inl (own_hw hw 23 rfl)) Via.refl e225 F1 8 rfl (hb hby own_d3_5) fun T226 X226 e226 => ?_
  refine own_dcmp X226 hx 9 rfl (hb hby own_d3_8) (-1 : Int32) hc ?_
  refine own_ifYes X226 hx 16 (hb hby own_d3_9) (by decide) (by decide) rfl ?_
  refine own_iconst X226 hx 17 rfl (hb hby own_d3_16) (0 : Int32) rfl ?_
  refine own_ret X226 (some (.int (0 : Int32))) (fun h => by rw [Bd.returns] at h; cases h) Bd.notSynchronized (by decide) (by decide) ?_ (fun fs hr => retN X226 hx (t := .boolean) Bd.returns (by simp) (hb hby own_d3_17) hr)
  show Q_rm_inexact Z o x y h0 n0 _ T226.heap _
  rw [e226]
  exact ⟨rfl, N0, rfl⟩
theorem own_pn1 : plainName "com/example/outpost/outpost/model/PlacementIsExactPinLaw" = true := by first | (simp [plainName, overriddenIn]; done) | decide +kernel
theorem own_ef_rm0 (m : MethodId) (i0 : Int32) (i1 : Int32) (i2 : Int32) (i3 : Int32) : entryFrame m #[(.int i0), (.int i1), (.int i2), (.int i3)] maxLocals = mkF m 0 #[.val (.int i0), .val (.int i1), .val (.int i2), .val (.int i3), .unset, .unset, .unset, .unset, .unset, .unset, .unset, .unset] [] := by first | (simp [entryFrame, mkF, argsToLocals, Value.category, maxLocals]; done) | rfl
def Q_rm0 (Z : State) (i0 : Int32) (i1 : Int32) (i2 : Int32) (i3 : Int32) (h0 : Heap) (n0 : Nat) (v : Option Value) (h : Heap) (L : List Loc) : Prop := v = some (.int 1) ∧ Fr n0 L
theorem own_pd0 : parseMethodDescriptor "([IDDI)V" = some ⟨[(.array .int), .double, .double, .int], none⟩ := by decide +kernel
theorem own_pd1 : parseMethodDescriptor "()Z" = some ⟨[], some .boolean⟩ := by decide +kernel
set_option maxRecDepth 65536 in
set_option maxHeartbeats 40000000 in
theorem rm0 (l : Launch) (Z : State) (a0 : Array Value) (hw : ∀ d ∈ tables_1, d.before a0 Z = true) (ws : List Jvm.Cond) (i0 : Int32) (i1 : Int32) (i2 : Int32) (i3 : Int32) (h0 : Heap) (n0 : Nat) (Z0 : n0 ≤ h0.size)  :
    MetFree l x (head1 (Jvm.Cond.code x code maxLocals ret :: ws) room_1) (fun aa U => aa = #[(.int i0), (.int i1), (.int i2), (.int i3)] ∧ Z.Warmed39 U.vm ∧ U.heap = h0) (fun _ _ _ _ _ => True) (fun _ U ou U' => ∃ v L, ou = .returned v ∧ Q_rm0 Z i0 i1 i2 i3 h0 n0 v U'.heap L ∧ FrameEnd U ou U' L room_1.cells room_1.slots) := by
  refine MetFree.of_bodySF (plainFor_of_name own_pn1) hisR ?_
  intro p e s m args below meth c s₁ Bd hml0 hP hK
  obtain ⟨rfl, hZ, hh⟩ := hP
  have hx := Bd.exec
  have hby := Bd.bytes
  have hml : c.maxLocals = 12 := hml0
  have hown : s.vm.findClass "com/example/outpost/outpost/model/PlacementIsExactPinLaw" = some m.cls := findClass_of_methodNamed Bd.named
  have hnm := (name_of_methodNamed Bd.named Bd.method).1
  have X0 : Stand p l e room_1 s m #[(.int i0), (.int i1), (.int i2), (.int i3)] below meth c s₁ [] 0 0 := Stand.of_body Bd
  have e0 : s₁.heap = h0 := by rw [← hh, Bd.state]; rfl
  have N0 := Fr.nil n0
  show own_Go p e below (fun o u L => FrameEnd s o u L room_1.cells room_1.slots) (Q_rm0 Z i0 i1 i2 i3 h0 n0) (s₁.setTop (entryFrame m #[(.int i0), (.int i1), (.int i2), (.int i3)] maxLocals))
  rw [own_ef_rm0 m i0 i1 i2 i3]
  show own_Go _ _ _ _ _ (State.setTop _ (mkF _ 0 #[.val (.int i0), .val (.int i1), .val (.int i2), .val (.int i3), .unset, .unset, .unset, .unset, .unset, .unset, .unset, .unset] []))
  refine own_iloadN X0 hx 1 rfl (hb hby at_0) rfl ?_
  refine own_ldcI X0 hx hZ hown (own_hw hw 0 rfl) 3 rfl (hb hby at_1) ?_
  refine own_iand X0 hx 4 rfl (hb hby at_3) _ rfl ?_
  refine own_istore X0 hx 6 rfl (hb hby at_4) #[.val (.int i0), .val (.int i1), .val (.int i2), .val (.int i3), .val (.int (i1 &&& (1048575 : Int32))), .unset, .unset, .unset, .unset, .unset, .unset, .unset] rfl ?_
  show own_Go _ _ _ _ _ (State.setTop _ (mkF _ 6 #[.val (.int i0), .val (.int i1), .val (.int i2), .val (.int i3), .val (.int (own_r i1)), .unset, .unset, .unset, .unset, .unset, .unset, .unset] []))
  refine own_iloadN X0 hx 7 rfl (hb hby at_6) rfl ?_
  refine own_ldcI X0 hx hZ hown (own_hw hw 0 rfl) 9 rfl (hb hby at_7) ?_
  refine own_iand X0 hx 10 rfl (hb hby at_9) _ rfl ?_
  refine own_iload X0 hx 12 rfl (hb hby at_10) rfl ?_
  refine own_iconst X0 hx 13 rfl (hb hby at_12) (1 : Int32) rfl ?_
  refine own_iadd X0 hx 14 rfl (hb hby at_13) _ rfl ?_
  refine own_irem X0 hx 15 rfl (hb hby at_14) (own_r1_nz i1) _ rfl ?_
  refine own_istore X0 hx 17 rfl (hb hby at_15) #[.val (.int i0), .val (.int i1), .val (.int i2), .val (.int i3), .val (.int (own_r i1)), .val (.int ((i2 &&& (1048575 : Int32)) % ((own_r i1) + (1 : Int32)))), .unset, .unset, .unset, .unset, .unset, .unset] rfl ?_
  have J29 : ∀ (d : Int32), (0 ≤ d.toInt ∧ d.toInt ≤ (own_r i1).toInt) → own_Go p e below (fun o u L => FrameEnd s o u L room_1.cells room_1.slots) (Q_rm0 Z i0 i1 i2 i3 h0 n0) (s₁.setTop (mkF m 29 #[.val (.int i0), .val (.int i1), .val (.int i2), .val (.int i3), .val (.int (own_r i1)), .val (.int d), .unset, .unset, .unset, .unset, .unset, .unset] [])) := by
    intro d hd
    show own_Go _ _ _ _ _ (State.setTop _ (mkF _ 29 #[.val (.int i0), .val (.int i1), .val (.int i2), .val (.int i3), .val (.int (own_r i1)), .val (.int d), .unset, .unset, .unset, .unset, .unset, .unset] []))
    refine own_iload X0 hx 31 rfl (hb hby at_29) rfl ?_
    refine own_iload X0 hx 33 rfl (hb hby at_31) rfl ?_
    refine own_isub X0 hx 34 rfl (hb hby at_33) _ rfl ?_
    refine own_istore X0 hx 36 rfl (hb hby at_34) #[.val (.int i0), .val (.int i1), .val (.int i2), .val (.int i3), .val (.int (own_r i1)), .val (.int d), .val (.int ((own_r i1) - d)), .unset, .unset, .unset, .unset, .unset] rfl ?_
    refine own_iconst X0 hx 37 rfl (hb hby at_36) (1 : Int32) rfl ?_
    refine own_iloadN X0 hx 38 rfl (hb hby at_37) rfl ?_
    refine own_iconst X0 hx 39 rfl (hb hby at_38) (1 : Int32) rfl ?_
    refine own_iushr X0 hx 40 rfl (hb hby at_39) _ rfl ?_
    refine own_bipush X0 hx 42 rfl (hb hby at_40) (7 : Int32) rfl ?_
    refine own_iand X0 hx 43 rfl (hb hby at_42) _ rfl ?_
    refine own_iadd X0 hx 44 rfl (hb hby at_43) _ rfl ?_
    refine own_istore X0 hx 46 rfl (hb hby at_44) #[.val (.int i0), .val (.int i1), .val (.int i2), .val (.int i3), .val (.int (own_r i1)), .val (.int d), .val (.int ((own_r i1) - d)), .val (.int ((1 : Int32) + (((i3.toUInt32 >>> ((1 : Int32) &&& 31).toUInt32).toInt32) &&& (7 : Int32)))), .unset, .unset, .unset, .unset] rfl ?_
    show own_Go _ _ _ _ _ (State.setTop _ (mkF _ 46 #[.val (.int i0), .val (.int i1), .val (.int i2), .val (.int i3), .val (.int (own_r i1)), .val (.int d), .val (.int ((own_r i1) - d)), .val (.int (own_fac i3)), .unset, .unset, .unset, .unset] []))
    refine own_iloadN X0 hx 47 rfl (hb hby at_46) rfl ?_
    refine own_ldcI X0 hx hZ hown (own_hw hw 1 rfl) 49 rfl (hb hby at_47) ?_
    refine own_iand X0 hx 50 rfl (hb hby at_49) _ rfl ?_
    refine own_istore X0 hx 52 rfl (hb hby at_50) #[.val (.int i0), .val (.int i1), .val (.int i2), .val (.int i3), .val (.int (own_r i1)), .val (.int d), .val (.int ((own_r i1) - d)), .val (.int (own_fac i3)), .unset, .val (.int (i0 &&& (1073741823 : Int32))), .unset, .unset] rfl ?_
    show own_Go _ _ _ _ _ (State.setTop _ (mkF _ 52 #[.val (.int i0), .val (.int i1), .val (.int i2), .val (.int i3), .val (.int (own_r i1)), .val (.int d), .val (.int ((own_r i1) - d)), .val (.int (own_fac i3)), .unset, .val (.int (own_c0 i0)), .unset, .unset] []))
    refine own_iloadN X0 hx 53 rfl (hb hby at_52) rfl ?_
    refine own_bipush X0 hx 55 rfl (hb hby at_53) (16 : Int32) rfl ?_
    refine own_iand X0 hx 56 rfl (hb hby at_55) _ rfl ?_
    by_cases hc227 : (i3 &&& (16 : Int32)) = (0 : Int32)
    ·
      refine own_ifYes X0 hx 87 (hb hby at_56) ((if0 _ _).trans (teq hc227).1) (by decide) rfl ?_
      refine own_iconst X0 hx 88 rfl (hb hby at_87) (1 : Int32) rfl ?_
      refine own_newA X0 hx hZ (own_hw hw 2 rfl) e0 90 rfl (hb hby at_88) (by decide) 1 (by decide) (by decide) (by decide) (by decide) "[I" (by decide) fun T228 h228 k228 b228 g228 X228 e228 E228 A228 C228 => ?_
      have ge229 : n0 ≤ b228 := Nat.le_trans Z0 (Nat.le_of_eq g228.symm)
      have z230 := Nat.le_trans Z0 E228.1
      have f231 : Arv Z h228 b228 k228 .int (1 : Int32) [(.int (0 : Int32))] (.int (0 : Int32)) := (Arv.new A228 (by decide)).pad (pad_rep [] (.int (0 : Int32)) 1)
      refine own_dup X228 hx 91 rfl (hb hby at_90) rfl ?_
      refine own_iconst X228 hx 92 rfl (hb hby at_91) (0 : Int32) rfl ?_
      refine own_iload X228 hx 94 rfl (hb hby at_92) rfl ?_
      refine own_stI X228 hx hZ e228 f231 ⟨by decide, by decide⟩ 0 rfl (Nat.le_of_ble_eq_true rfl) [(.int (own_c0 i0))] rfl 95 rfl (hb hby at_94) fun T232 h232 X232 e232 W232 f233 => ?_
      have f234 := C228.wr W232
      have z235 := Nat.le_trans z230 (Keep.of_wr W232).1
      have N236 := Fr.snoc X232 N0 ge229
      refine own_astore X232 hx 97 rfl (hb hby at_95) rfl #[.val (.int i0), .val (.int i1), .val (.int i2), .val (.int i3), .val (.int (own_r i1)), .val (.int d), .val (.int ((own_r i1) - d)), .val (.int (own_fac i3)), .val (.ref b228), .val (.int (own_c0 i0)), .unset, .unset] rfl ?_
      refine own_new X232 hx hZ hown (own_hw hw 3 rfl) (own_hw hw 4 rfl) (own_hw hw 5 rfl) e232 100 rfl (hb hby at_97) (by decide) (by decide) fun T237 h237 b237 g237 X237 e237 E237 A237 D237 => ?_
      have ne238 : b228 ≠ b237 := Nat.ne_of_lt (Nat.lt_of_lt_of_le f234.lt (Nat.le_of_eq g237.symm))
      have ge239 : n0 ≤ b237 := Nat.le_trans z235 (Nat.le_of_eq g237.symm)
      have f240 := f234.ext E237
      have f241 := f233.ext E237
      have z242 := Nat.le_trans z235 E237.1
      have f243 : Fld Z h237 b237 "com/example/outpost/outpost/model/Placement" "centers" "[I" .null := D237 (Or.inr (own_hw hw 22 rfl)) (ty := (.array .int)) (by decide)
      have f244 : Fld Z h237 b237 "com/example/outpost/outpost/model/Placement" "radius" "D" (.double (0 : UInt64)) := D237 (Or.inr (own_hw hw 24 rfl)) (ty := .double) (by decide)
      have f245 : Fld Z h237 b237 "com/example/outpost/outpost/model/Placement" "lowerBound" "D" (.double (0 : UInt64)) := D237 (Or.inr (own_hw hw 26 rfl)) (ty := .double) (by decide)
      have f246 : Fld Z h237 b237 "com/example/outpost/outpost/model/Placement" "factor" "I" (.int (0 : Int32)) := D237 (Or.inr (own_hw hw 28 rfl)) (ty := .int) (by decide)
      refine own_dup X237 hx 101 rfl (hb hby at_100) rfl ?_
      refine own_aload X237 hx 103 rfl (hb hby at_101) rfl rfl ?_
      refine own_iload X237 hx 105 rfl (hb hby at_103) rfl ?_
      refine own_i2d X237 hx 106 rfl (hb hby at_105) _ rfl ?_
      refine own_iload X237 hx 108 rfl (hb hby at_106) rfl ?_
      refine own_i2d X237 hx 109 rfl (hb hby at_108) _ rfl ?_
      refine own_iload X237 hx 111 rfl (hb hby at_109) rfl ?_
      refine own_special X237 hx hZ (y := (⟨"com/example/outpost/outpost/model/Placement", "<init>", "([IDDI)V"⟩ : MethodName)) hown rfl (own_hw hw 6 rfl) (own_hw hw 7 rfl) (a := b237) (by decide) rfl (rm_init1 l Z a0 hw [] b237 b228 (FP.i2d (own_r i1)) (FP.i2d ((own_r i1) - d)) (own_fac i3) k228 (own_c0 i0) h237 n0 z242 A237 f243 f244 f245 f246 ge239 f241 f240 (own_c0_ge i0) (own_ge0 hd) (own_ler hd) (own_fac_rng i3)) (own_hw hw 8 rfl) (own_hw hw 5 rfl) (by decide) e237 (by rw [hml]; rfl) [(.ref b228), (.double (FP.i2d (own_r i1))), (.double (FP.i2d ((own_r i1) - d))), (.int (own_fac i3))] 1 (by decide) (Nat.le_of_eq rfl) (by decide) (by decide) (lenOf own_pd0 rfl) rfl rfl 114 rfl (hb hby at_111) fun v247 T247 Lc247 X247 hQ247 => ?_
      obtain ⟨rfl, Nq247, Kq247, f248, f249, f250⟩ := hQ247
      have N251 := Fr.app N236 Nq247
      have f252 := f240.keep Kq247
      have f253 := f241.keep Kq247 (ninS ne238 nin0)
      have f254 := A237.keep Kq247
      have z259 := Nat.le_trans z242 Kq247.1
      show own_Go _ _ _ _ _ (State.setTop _ (mkF _ 114 _ [(.ref b237)]))
      refine own_astore X247 hx 116 rfl (hb hby at_114) rfl #[.val (.int i0), .val (.int i1), .val (.int i2), .val (.int i3), .val (.int (own_r i1)), .val (.int d), .val (.int ((own_r i1) - d)), .val (.int (own_fac i3)), .val (.ref b228), .val (.int (own_c0 i0)), .val (.ref b237), .unset] rfl ?_
      refine own_iload X247 hx 118 rfl (hb hby at_116) rfl ?_
      by_cases hc260 : d = (0 : Int32)
      ·
        refine own_ifNo X247 hx 121 rfl (hb hby at_118) ((if0 _ _).trans (teq hc260).2) ?_
        refine own_iconst X247 hx 122 rfl (hb hby at_121) (1 : Int32) rfl ?_
        refine own_goto X247 hx 126 (hb hby at_122) (by decide) rfl ?_
        refine own_istore X247 hx 128 rfl (hb hby at_126) #[.val (.int i0), .val (.int i1), .val (.int i2), .val (.int i3), .val (.int (own_r i1)), .val (.int d), .val (.int ((own_r i1) - d)), .val (.int (own_fac i3)), .val (.ref b228), .val (.int (own_c0 i0)), .val (.ref b237), .val (.int (1 : Int32))] rfl ?_
        refine own_aload X247 hx 130 rfl (hb hby at_128) rfl rfl ?_
        refine own_virtual X247 hx hZ (y := (⟨"com/example/outpost/outpost/model/Placement", "isExact", "()Z"⟩ : MethodName)) (z := (⟨"com/example/outpost/outpost/model/Placement", "isExact", "()Z"⟩ : MethodName)) hown (own_hw hw 29 rfl) (own_hw hw 30 rfl) (own_hw hw 32 rfl) (own_hw hw 31 rfl) rfl (a := b237) f248 (by decide) (rm_exact l Z a0 hw [] b237 (FP.i2d (own_r i1)) (FP.i2d ((own_r i1) - d)) T247.heap n0 z259 f249 f250 (own_eq hd hc260)) (own_hw hw 33 rfl) (own_hw hw 5 rfl) (by decide) rfl (by rw [hml]; rfl) [] 0 (by decide) (Nat.le_of_eq rfl) (by decide) (by decide) (lenOf own_pd1 rfl) rfl rfl 133 rfl (hb hby at_130) fun v261 T261 Lc261 X261 hQ261 => ?_
        obtain ⟨rfl, Nq261, e261⟩ := hQ261
        have N262 := Fr.app N251 Nq261
        show own_Go _ _ _ _ _ (State.setTop _ (mkF _ 133 _ [(.int (1 : Int32))]))
        refine own_iload X261 hx 135 rfl (hb hby at_133) rfl ?_
        refine own_icmpNo X261 hx 138 rfl (hb hby at_135) (by decide) ?_
        refine own_iconst X261 hx 139 rfl (hb hby at_138) (1 : Int32) rfl ?_
        refine own_goto X261 hx 143 (hb hby at_139) (by decide) rfl ?_
        refine own_ret X261 (some (.int (1 : Int32))) (fun h => by rw [Bd.returns] at h; cases h) Bd.notSynchronized (by decide) (by decide) ?_ (fun fs hr => retN X261 hx (t := .boolean) Bd.returns (by simp) (hb hby at_143) hr)
        show Q_rm0 Z i0 i1 i2 i3 h0 n0 _ T261.heap _
        rw [e261]
        exact ⟨rfl, N262⟩
      ·
        refine own_ifYes X247 hx 125 (hb hby at_118) ((if0 _ _).trans (feq hc260).2) (by decide) rfl ?_
        refine own_iconst X247 hx 126 rfl (hb hby at_125) (0 : Int32) rfl ?_
        refine own_istore X247 hx 128 rfl (hb hby at_126) #[.val (.int i0), .val (.int i1), .val (.int i2), .val (.int i3), .val (.int (own_r i1)), .val (.int d), .val (.int ((own_r i1) - d)), .val (.int (own_fac i3)), .val (.ref b228), .val (.int (own_c0 i0)), .val (.ref b237), .val (.int (0 : Int32))] rfl ?_
        refine own_aload X247 hx 130 rfl (hb hby at_128) rfl rfl ?_
        refine own_virtual X247 hx hZ (y := (⟨"com/example/outpost/outpost/model/Placement", "isExact", "()Z"⟩ : MethodName)) (z := (⟨"com/example/outpost/outpost/model/Placement", "isExact", "()Z"⟩ : MethodName)) hown (own_hw hw 29 rfl) (own_hw hw 30 rfl) (own_hw hw 32 rfl) (own_hw hw 31 rfl) rfl (a := b237) f248 (by decide) (rm_inexact l Z a0 hw [] b237 (FP.i2d (own_r i1)) (FP.i2d ((own_r i1) - d)) T247.heap n0 z259 f249 f250 (own_lt hd hc260)) (own_hw hw 33 rfl) (own_hw hw 5 rfl) (by decide) rfl (by rw [hml]; rfl) [] 0 (by decide) (Nat.le_of_eq rfl) (by decide) (by decide) (lenOf own_pd1 rfl) rfl rfl 133 rfl (hb hby at_130) fun v263 T263 Lc263 X263 hQ263 => ?_
        obtain ⟨rfl, Nq263, e263⟩ := hQ263
        have N264 := Fr.app N251 Nq263
        show own_Go _ _ _ _ _ (State.setTop _ (mkF _ 133 _ [(.int (0 : Int32))]))
        refine own_iload X263 hx 135 rfl (hb hby at_133) rfl ?_
        refine own_icmpNo X263 hx 138 rfl (hb hby at_135) (by decide) ?_
        refine own_iconst X263 hx 139 rfl (hb hby at_138) (1 : Int32) rfl ?_
        refine own_goto X263 hx 143 (hb hby at_139) (by decide) rfl ?_
        refine own_ret X263 (some (.int (1 : Int32))) (fun h => by rw [Bd.returns] at h; cases h) Bd.notSynchronized (by decide) (by decide) ?_ (fun fs hr => retN X263 hx (t := .boolean) Bd.returns (by simp) (hb hby at_143) hr)
        show Q_rm0 Z i0 i1 i2 i3 h0 n0 _ T263.heap _
        rw [e263]
        exact ⟨rfl, N264⟩
    ·
      refine own_ifNo X0 hx 59 rfl (hb hby at_56) ((if0 _ _).trans (feq hc227).1) ?_
      refine own_iconst X0 hx 60 rfl (hb hby at_59) (2 : Int32) rfl ?_
      refine own_newA X0 hx hZ (own_hw hw 2 rfl) e0 62 rfl (hb hby at_60) (by decide) 2 (by decide) (by decide) (by decide) (by decide) "[I" (by decide) fun T265 h265 k265 b265 g265 X265 e265 E265 A265 C265 => ?_
      have ge266 : n0 ≤ b265 := Nat.le_trans Z0 (Nat.le_of_eq g265.symm)
      have z267 := Nat.le_trans Z0 E265.1
      have f268 : Arv Z h265 b265 k265 .int (2 : Int32) [(.int (0 : Int32)), (.int (0 : Int32))] (.int (0 : Int32)) := (Arv.new A265 (by decide)).pad (pad_rep [] (.int (0 : Int32)) 2)
      refine own_dup X265 hx 63 rfl (hb hby at_62) rfl ?_
      refine own_iconst X265 hx 64 rfl (hb hby at_63) (0 : Int32) rfl ?_
      refine own_iload X265 hx 66 rfl (hb hby at_64) rfl ?_
      refine own_stI X265 hx hZ e265 f268 ⟨by decide, by decide⟩ 0 rfl (Nat.le_of_ble_eq_true rfl) [(.int (own_c0 i0)), (.int (0 : Int32))] rfl 67 rfl (hb hby at_66) fun T269 h269 X269 e269 W269 f270 => ?_
      have f271 := C265.wr W269
      have z272 := Nat.le_trans z267 (Keep.of_wr W269).1
      have N273 := Fr.snoc X269 N0 ge266
      refine own_dup X269 hx 68 rfl (hb hby at_67) rfl ?_
      refine own_iconst X269 hx 69 rfl (hb hby at_68) (1 : Int32) rfl ?_
      refine own_iload X269 hx 71 rfl (hb hby at_69) rfl ?_
      refine own_iconst X269 hx 72 rfl (hb hby at_71) (1 : Int32) rfl ?_
      refine own_iadd X269 hx 73 rfl (hb hby at_72) _ rfl ?_
      refine own_iloadN X269 hx 74 rfl (hb hby at_73) rfl ?_
      refine own_iconst X269 hx 75 rfl (hb hby at_74) (5 : Int32) rfl ?_
      refine own_iushr X269 hx 76 rfl (hb hby at_75) _ rfl ?_
      refine own_sipush X269 hx 79 rfl (hb hby at_76) (255 : Int32) rfl ?_
      refine own_iand X269 hx 80 rfl (hb hby at_79) _ rfl ?_
      refine own_iadd X269 hx 81 rfl (hb hby at_80) _ rfl ?_
      show own_Go _ _ _ _ _ (State.setTop _ (mkF _ 81 _ [(.int (own_c1 i0 i3)), (.int (1 : Int32)), (.ref b265), (.ref b265)]))
      refine own_stI X269 hx hZ e269 f270 ⟨by decide, by decide⟩ 1 rfl (Nat.le_of_ble_eq_true rfl) [(.int (own_c0 i0)), (.int (own_c1 i0 i3))] rfl 82 rfl (hb hby at_81) fun T274 h274 X274 e274 W274 f275 => ?_
      have f276 := f271.wr W274
      have z277 := Nat.le_trans z272 (Keep.of_wr W274).1
      have N278 := Fr.snoc X274 N273 ge266
      refine own_astore X274 hx 84 rfl (hb hby at_82) rfl #[.val (.int i0), .val (.int i1), .val (.int i2), .val (.int i3), .val (.int (own_r i1)), .val (.int d), .val (.int ((own_r i1) - d)), .val (.int (own_fac i3)), .val (.ref b265), .val (.int (own_c0 i0)), .unset, .unset] rfl ?_
      refine own_goto X274 hx 97 (hb hby at_84) (by decide) rfl ?_
      refine own_new X274 hx hZ hown (own_hw hw 3 rfl) (own_hw hw 4 rfl) (own_hw hw 5 rfl) e274 100 rfl (hb hby at_97) (by decide) (by decide) fun T279 h279 b279 g279 X279 e279 E279 A279 D279 => ?_
      have ne280 : b265 ≠ b279 := Nat.ne_of_lt (Nat.lt_of_lt_of_le f276.lt (Nat.le_of_eq g279.symm))
      have ge281 : n0 ≤ b279 := Nat.le_trans z277 (Nat.le_of_eq g279.symm)
      have f282 := f276.ext E279
      have f283 := f275.ext E279
      have z284 := Nat.le_trans z277 E279.1
      have f285 : Fld Z h279 b279 "com/example/outpost/outpost/model/Placement" "centers" "[I" .null := D279 (Or.inr (own_hw hw 22 rfl)) (ty := (.array .int)) (by decide)
      have f286 : Fld Z h279 b279 "com/example/outpost/outpost/model/Placement" "radius" "D" (.double (0 : UInt64)) := D279 (Or.inr (own_hw hw 24 rfl)) (ty := .double) (by decide)
      have f287 : Fld Z h279 b279 "com/example/outpost/outpost/model/Placement" "lowerBound" "D" (.double (0 : UInt64)) := D279 (Or.inr (own_hw hw 26 rfl)) (ty := .double) (by decide)
      have f288 : Fld Z h279 b279 "com/example/outpost/outpost/model/Placement" "factor" "I" (.int (0 : Int32)) := D279 (Or.inr (own_hw hw 28 rfl)) (ty := .int) (by decide)
      refine own_dup X279 hx 101 rfl (hb hby at_100) rfl ?_
      refine own_aload X279 hx 103 rfl (hb hby at_101) rfl rfl ?_
      refine own_iload X279 hx 105 rfl (hb hby at_103) rfl ?_
      refine own_i2d X279 hx 106 rfl (hb hby at_105) _ rfl ?_
      refine own_iload X279 hx 108 rfl (hb hby at_106) rfl ?_
      refine own_i2d X279 hx 109 rfl (hb hby at_108) _ rfl ?_
      refine own_iload X279 hx 111 rfl (hb hby at_109) rfl ?_
      refine own_special X279 hx hZ (y := (⟨"com/example/outpost/outpost/model/Placement", "<init>", "([IDDI)V"⟩ : MethodName)) hown rfl (own_hw hw 6 rfl) (own_hw hw 7 rfl) (a := b279) (by decide) rfl (rm_init2 l Z a0 hw [] b279 b265 (FP.i2d (own_r i1)) (FP.i2d ((own_r i1) - d)) (own_fac i3) k265 (own_c0 i0) (own_c1 i0 i3) h279 n0 z284 A279 f285 f286 f287 f288 ge281 f283 f282 (own_c0_ge i0) (own_c1_gt i0 i3) (own_ge0 hd) (own_ler hd) (own_fac_rng i3)) (own_hw hw 8 rfl) (own_hw hw 5 rfl) (by decide) e279 (by rw [hml]; rfl) [(.ref b265), (.double (FP.i2d (own_r i1))), (.double (FP.i2d ((own_r i1) - d))), (.int (own_fac i3))] 1 (by decide) (Nat.le_of_eq rfl) (by decide) (by decide) (lenOf own_pd0 rfl) rfl rfl 114 rfl (hb hby at_111) fun v289 T289 Lc289 X289 hQ289 => ?_
      obtain ⟨rfl, Nq289, Kq289, f290, f291, f292⟩ := hQ289
      have N293 := Fr.app N278 Nq289
      have f294 := f282.keep Kq289
      have f295 := f283.keep Kq289 (ninS ne280 nin0)
      have f296 := A279.keep Kq289
      have z301 := Nat.le_trans z284 Kq289.1
      show own_Go _ _ _ _ _ (State.setTop _ (mkF _ 114 _ [(.ref b279)]))
      refine own_astore X289 hx 116 rfl (hb hby at_114) rfl #[.val (.int i0), .val (.int i1), .val (.int i2), .val (.int i3), .val (.int (own_r i1)), .val (.int d), .val (.int ((own_r i1) - d)), .val (.int (own_fac i3)), .val (.ref b265), .val (.int (own_c0 i0)), .val (.ref b279), .unset] rfl ?_
      refine own_iload X289 hx 118 rfl (hb hby at_116) rfl ?_
      by_cases hc302 : d = (0 : Int32)
      ·
        refine own_ifNo X289 hx 121 rfl (hb hby at_118) ((if0 _ _).trans (teq hc302).2) ?_
        refine own_iconst X289 hx 122 rfl (hb hby at_121) (1 : Int32) rfl ?_
        refine own_goto X289 hx 126 (hb hby at_122) (by decide) rfl ?_
        refine own_istore X289 hx 128 rfl (hb hby at_126) #[.val (.int i0), .val (.int i1), .val (.int i2), .val (.int i3), .val (.int (own_r i1)), .val (.int d), .val (.int ((own_r i1) - d)), .val (.int (own_fac i3)), .val (.ref b265), .val (.int (own_c0 i0)), .val (.ref b279), .val (.int (1 : Int32))] rfl ?_
        refine own_aload X289 hx 130 rfl (hb hby at_128) rfl rfl ?_
        refine own_virtual X289 hx hZ (y := (⟨"com/example/outpost/outpost/model/Placement", "isExact", "()Z"⟩ : MethodName)) (z := (⟨"com/example/outpost/outpost/model/Placement", "isExact", "()Z"⟩ : MethodName)) hown (own_hw hw 29 rfl) (own_hw hw 30 rfl) (own_hw hw 32 rfl) (own_hw hw 31 rfl) rfl (a := b279) f290 (by decide) (rm_exact l Z a0 hw [] b279 (FP.i2d (own_r i1)) (FP.i2d ((own_r i1) - d)) T289.heap n0 z301 f291 f292 (own_eq hd hc302)) (own_hw hw 33 rfl) (own_hw hw 5 rfl) (by decide) rfl (by rw [hml]; rfl) [] 0 (by decide) (Nat.le_of_eq rfl) (by decide) (by decide) (lenOf own_pd1 rfl) rfl rfl 133 rfl (hb hby at_130) fun v303 T303 Lc303 X303 hQ303 => ?_
        obtain ⟨rfl, Nq303, e303⟩ := hQ303
        have N304 := Fr.app N293 Nq303
        show own_Go _ _ _ _ _ (State.setTop _ (mkF _ 133 _ [(.int (1 : Int32))]))
        refine own_iload X303 hx 135 rfl (hb hby at_133) rfl ?_
        refine own_icmpNo X303 hx 138 rfl (hb hby at_135) (by decide) ?_
        refine own_iconst X303 hx 139 rfl (hb hby at_138) (1 : Int32) rfl ?_
        refine own_goto X303 hx 143 (hb hby at_139) (by decide) rfl ?_
        refine own_ret X303 (some (.int (1 : Int32))) (fun h => by rw [Bd.returns] at h; cases h) Bd.notSynchronized (by decide) (by decide) ?_ (fun fs hr => retN X303 hx (t := .boolean) Bd.returns (by simp) (hb hby at_143) hr)
        show Q_rm0 Z i0 i1 i2 i3 h0 n0 _ T303.heap _
        rw [e303]
        exact ⟨rfl, N304⟩
      ·
        refine own_ifYes X289 hx 125 (hb hby at_118) ((if0 _ _).trans (feq hc302).2) (by decide) rfl ?_
        refine own_iconst X289 hx 126 rfl (hb hby at_125) (0 : Int32) rfl ?_
        refine own_istore X289 hx 128 rfl (hb hby at_126) #[.val (.int i0), .val (.int i1), .val (.int i2), .val (.int i3), .val (.int (own_r i1)), .val (.int d), .val (.int ((own_r i1) - d)), .val (.int (own_fac i3)), .val (.ref b265), .val (.int (own_c0 i0)), .val (.ref b279), .val (.int (0 : Int32))] rfl ?_
        refine own_aload X289 hx 130 rfl (hb hby at_128) rfl rfl ?_
        refine own_virtual X289 hx hZ (y := (⟨"com/example/outpost/outpost/model/Placement", "isExact", "()Z"⟩ : MethodName)) (z := (⟨"com/example/outpost/outpost/model/Placement", "isExact", "()Z"⟩ : MethodName)) hown (own_hw hw 29 rfl) (own_hw hw 30 rfl) (own_hw hw 32 rfl) (own_hw hw 31 rfl) rfl (a := b279) f290 (by decide) (rm_inexact l Z a0 hw [] b279 (FP.i2d (own_r i1)) (FP.i2d ((own_r i1) - d)) T289.heap n0 z301 f291 f292 (own_lt hd hc302)) (own_hw hw 33 rfl) (own_hw hw 5 rfl) (by decide) rfl (by rw [hml]; rfl) [] 0 (by decide) (Nat.le_of_eq rfl) (by decide) (by decide) (lenOf own_pd1 rfl) rfl rfl 133 rfl (hb hby at_130) fun v305 T305 Lc305 X305 hQ305 => ?_
        obtain ⟨rfl, Nq305, e305⟩ := hQ305
        have N306 := Fr.app N293 Nq305
        show own_Go _ _ _ _ _ (State.setTop _ (mkF _ 133 _ [(.int (0 : Int32))]))
        refine own_iload X305 hx 135 rfl (hb hby at_133) rfl ?_
        refine own_icmpNo X305 hx 138 rfl (hb hby at_135) (by decide) ?_
        refine own_iconst X305 hx 139 rfl (hb hby at_138) (1 : Int32) rfl ?_
        refine own_goto X305 hx 143 (hb hby at_139) (by decide) rfl ?_
        refine own_ret X305 (some (.int (1 : Int32))) (fun h => by rw [Bd.returns] at h; cases h) Bd.notSynchronized (by decide) (by decide) ?_ (fun fs hr => retN X305 hx (t := .boolean) Bd.returns (by simp) (hb hby at_143) hr)
        show Q_rm0 Z i0 i1 i2 i3 h0 n0 _ T305.heap _
        rw [e305]
        exact ⟨rfl, N306⟩
  show own_Go _ _ _ _ _ (State.setTop _ (mkF _ 17 #[.val (.int i0), .val (.int i1), .val (.int i2), .val (.int i3), .val (.int (own_r i1)), .val (.int (own_d i1 i2)), .unset, .unset, .unset, .unset, .unset, .unset] []))
  refine own_iloadN X0 hx 18 rfl (hb hby at_17) rfl ?_
  refine own_iconst X0 hx 19 rfl (hb hby at_18) (1 : Int32) rfl ?_
  refine own_iand X0 hx 20 rfl (hb hby at_19) _ rfl ?_
  by_cases hc307 : (i3 &&& (1 : Int32)) = (0 : Int32)
  ·
    refine own_ifYes X0 hx 29 (hb hby at_20) ((if0 _ _).trans (teq hc307).1) (by decide) rfl ?_
    exact J29 _ (own_d_rng i1 i2)
  ·
    refine own_ifNo X0 hx 23 rfl (hb hby at_20) ((if0 _ _).trans (feq hc307).1) ?_
    refine own_iload X0 hx 25 rfl (hb hby at_23) rfl ?_
    refine own_iconst X0 hx 26 rfl (hb hby at_25) (1 : Int32) rfl ?_
    refine own_iand X0 hx 27 rfl (hb hby at_26) _ rfl ?_
    refine own_istore X0 hx 29 rfl (hb hby at_27) #[.val (.int i0), .val (.int i1), .val (.int i2), .val (.int i3), .val (.int (own_r i1)), .val (.int ((own_d i1 i2) &&& (1 : Int32))), .unset, .unset, .unset, .unset, .unset, .unset] rfl ?_
    exact J29 _ (own_d1_rng i1 (own_d_rng i1 i2))
set_option maxRecDepth 65536 in
set_option maxHeartbeats 40000000 in
theorem comes_1 {Post : Tables → Env → Array Value → State → Outcome → State → Prop} (hpost : ∀ tb e args s v u, (limb_1_1.after args s (.returned v) u = true ∧ limb_1_2.after args s (.returned v) u = true ∧ True) → FrameEnd s (.returned v) u (Jvm.fieldLocs frame_1_writes args s ++ Jvm.arrayLocs frame_1_arrays args s ++ Jvm.staticLocs frame_1_statics s) 16 128 → Post tb e args s (.returned v) u) :
    ArmFor flags0 classFile x code maxLocals ret World_1 tables_1 room_1 Calls_1 rest_1 Pre_1 Post := by
  intro l hfl _ _ p e ha hc hk s m args below hf hA hF happ hP
  obtain ⟨hcalls, hrest, hpre⟩ := hP
  obtain ⟨-, -, -, hnamed, -, -, -, hat⟩ := (Spec.applies_iff hf).mp happ
  obtain ⟨hg, hn⟩ := and_e (Cond.before_iff.mp (show (Jvm.Cond.and given_1 narrow_1).before args s = true from hpre))
  obtain ⟨hcount, hg1⟩ := and_e hg
  obtain ⟨ha0, hgr0⟩ := and_e hg1
  obtain ⟨ha1, hgr1⟩ := and_e hgr0
  obtain ⟨ha2, hgr2⟩ := and_e hgr1
  obtain ⟨w0, w1, w2, w3, rfl⟩ : ∃ w0 w1 w2 w3 : Value, args = #[w0, w1, w2, w3] := by
    have hs : args.size = 4 := by simpa [Cond.value, given_1] using hcount
    obtain ⟨L⟩ := args
    match L, hs with
    | [w0, w1, w2, w3], _ => exact ⟨w0, w1, w2, w3, rfl⟩
  have hw := fun d (hd : d ∈ tables_1) => atoms_spec (ws := Jvm.Cond.code x code maxLocals ret :: tables_1) hat d (List.mem_cons_of_mem _ hd)
  have hfit : Fit s := fun {y c} hc i hi => by
    obtain ⟨ha, rfl⟩ := Array.getElem?_eq_some_iff.mp hc
    have q := List.all_eq_true.mp ((Array.all_eq_true_iff_forall_mem.mp hF) _ (Array.getElem_mem ha)) i (List.mem_range.mpr hi)
    simpa [Array.getElem?_eq_getElem hi] using q
  obtain ⟨i0, ei0⟩ := is_v ha0
  obtain rfl : w0 = (.int i0) := Option.some.inj ei0
  obtain ⟨i1, ei1⟩ := is_v ha1
  obtain rfl : w1 = (.int i1) := Option.some.inj ei1
  obtain ⟨i2, ei2⟩ := is_v ha2
  obtain rfl : w2 = (.int i2) := Option.some.inj ei2
  obtain ⟨i3, ei3⟩ := is_v hgr2
  obtain rfl : w3 = (.int i3) := Option.some.inj ei3
  obtain ⟨n, o, h1, h2, h3, _, L, rfl, ⟨rfl, N⟩, hq⟩ := rm0 l s _ hw tables_1 i0 i1 i2 i3 s.heap s.heap.size (Nat.le_refl _)  p e ha hc hk s m _ below hf ((Spec.applies_iff_loose hf).mp happ).1 ⟨rfl, State.Warmed39.refl s, rfl⟩ trivial
  refine ⟨n, _, h1, h2, h3, hpost _ _ _ _ _ _ ⟨Cond.after_iff.mpr rfl, Cond.after_iff.mpr (eq_i res_at (Term.int_eval (1)) rfl), trivial⟩ ⟨hq.1, hq.2.1, (hq.2.2.sift fun y hy => Or.inr (N y hy)).mono (by decide) (by decide)⟩⟩
theorem main_1_1 : Claimed_1_1 := comes_1 fun _ _ _ _ _ _ h hF => ⟨h.1, hF⟩
theorem main_1_2 : Claimed_1_2 := comes_1 fun _ _ _ _ _ _ h hF => ⟨h.2.1, hF⟩
end Jvm.Pilot.@@N@@
namespace Jvm.Pilot.@@N@@
open Jvm Jvm.ClassFile Sem Op Lib Jvm.Free Jvm.Stand Jvm.Pilot.@@N@@.Jvm.D
/-! MADE BY PROGRAM (witnessworld.py) out of the Statement's table words and the real class files: 9 classes; the members and pool entries that the words name. The judged class is class 1, her method 1. -/
namespace start1
open Jvm.ClassFile
def u (s : String) : CpInfo := .utf8 (stringToUtf16 s)
/-- a pool by its gaps: so many unusable entries, then the entry; so many at the end -/
def gap : Nat → List CpInfo → List CpInfo
  | 0, r => r
  | n + 1, r => .unusable :: gap n r
def poolList (es : List (Nat × CpInfo)) (last : Nat) : List CpInfo := es.foldr (fun e r => gap e.1 (e.2 :: r)) (gap last [])
def pool (es : List (Nat × CpInfo)) (last : Nat) : Array CpInfo := ⟨poolList es last⟩
def fileOf (pool : Array CpInfo) (this : Nat) (attrs : Array Attribute := #[]) (ms : Array MethodInfo := #[]) (fl : Nat := 33) (sup : Nat := 0) (ifs : Array Nat := #[]) (fds : Array FieldInfo := #[]) : ClassFile where
  minorVersion := 0
  majorVersion := 65
  constantPool := pool
  accessFlags := fl
  thisClass := this
  superClass := sup
  interfaces := ifs
  fields := fds
  methods := ms
  attributes := attrs
def plain (name : String) (sup : Option ClassId) : Class where
  name := name
  kind := .ordinary
  loader := none
  accessFlags := 33
  super := sup
  interfaces := #[]
  cf := none
  fields := #[]
  methods := #[]
  instanceTypes := #[]
  staticTypes := #[]
  resolved := #[]
  callSites := []
  init := .initialized
  statics := none
  mirror := none

def pool0 : Array CpInfo := pool [(5, u "<init>"), (0, u "()V"), (1, .class_ 10), (1, u "java/lang/Object"), (85, u "clone"), (0, u "()Ljava/lang/Object;")] 26

def k0c0 : Code := { maxStack := 0, maxLocals := 1, code := object_method_1_code, exceptionTable := #[], attributes := #[] }
def k0m0 : Method := { name := "<init>", desc := "()V", sig := { parameters := [], returnType := none }, accessFlags := 1, code := some k0c0 }
def k0m1 : Method := { name := "clone", desc := "()Ljava/lang/Object;", sig := { parameters := [], returnType := some (.object "java/lang/Object") }, accessFlags := 260, code := none }
/-- java/lang/Object -/
def k0 : Class := { plain "java/lang/Object" none with
  accessFlags := 33
  interfaces := #[]
  cf := some (fileOf pool0 8 #[] #[{ accessFlags := 1, nameIndex := 5, descriptorIndex := 6, attributes := #[] }, { accessFlags := 260, nameIndex := 96, descriptorIndex := 97, attributes := #[] }] 33 0 #[] #[])
  fields := #[]
  methods := #[k0m0, k0m1]
  instanceTypes := #[]
  staticTypes := #[]
  resolved := Array.replicate 124 none
  statics := none }

def pool1 : Array CpInfo := pool [(2, .class_ 4), (1, u "java/lang/Object"), (0, u "<init>"), (0, u "()V"), (0, .integer 1048575), (0, .integer 1073741823), (0, .class_ 10), (0, u "com/example/outpost/outpost/model/Placement"), (0, .methodref 9 12), (0, .nameAndType 5 13), (0, u "([IDDI)V"), (0, .methodref 9 15), (0, .nameAndType 16 17), (0, u "isExact"), (0, u "()Z"), (0, .class_ 19), (0, u "com/example/outpost/outpost/model/PlacementIsExactPinLaw"), (2, u "law"), (0, u "(IIII)Z")] 5

def k1m0 : Method := { name := "<init>", desc := "()V", sig := { parameters := [], returnType := none }, accessFlags := 1, code := none }
def k1c1 : Code := { maxStack := 8, maxLocals := 12, code := code, exceptionTable := #[], attributes := #[] }
def k1m1 : Method := { name := "law", desc := "(IIII)Z", sig := { parameters := [.int, .int, .int, .int], returnType := some .boolean }, accessFlags := 9, code := some k1c1 }
/-- com/example/outpost/outpost/model/PlacementIsExactPinLaw -/
def k1 : Class := { plain "com/example/outpost/outpost/model/PlacementIsExactPinLaw" (some 0) with
  accessFlags := 49
  interfaces := #[]
  cf := some (fileOf pool1 18 #[] #[{ accessFlags := 1, nameIndex := 5, descriptorIndex := 6, attributes := #[] }, { accessFlags := 9, nameIndex := 22, descriptorIndex := 23, attributes := #[] }] 49 2 #[] #[])
  fields := #[]
  methods := #[k1m0, k1m1]
  instanceTypes := #[]
  staticTypes := #[]
  resolved := Array.replicate 29 none
  statics := none }

def pool2 : Array CpInfo := pool [(1, .methodref 2 3), (0, .class_ 4), (0, .nameAndType 5 6), (0, u "java/lang/Object"), (0, u "<init>"), (0, u "()V"), (22, .methodref 30 31), (0, .class_ 32), (0, .nameAndType 33 34), (0, u "[I"), (0, u "clone"), (0, u "()Ljava/lang/Object;"), (0, .fieldref 36 37), (0, .class_ 38), (0, .nameAndType 39 32), (0, u "com/example/outpost/outpost/model/Placement"), (0, u "centers"), (0, .fieldref 36 41), (0, .nameAndType 42 43), (0, u "radius"), (0, u "D"), (0, .fieldref 36 45), (0, .nameAndType 46 43), (0, u "lowerBound"), (0, .fieldref 36 48), (0, .nameAndType 49 50), (0, u "factor"), (0, u "I"), (0, u "([IDDI)V"), (6, u "isExact"), (0, u "()Z")] 23

def k2c0 : Code := { maxStack := 6, maxLocals := 8, code := prog_70_method_1_code, exceptionTable := #[], attributes := #[] }
def k2m0 : Method := { name := "<init>", desc := "([IDDI)V", sig := { parameters := [(.array .int), .double, .double, .int], returnType := none }, accessFlags := 1, code := some k2c0 }
def k2c1 : Code := { maxStack := 4, maxLocals := 1, code := prog_70_method_6_code, exceptionTable := #[], attributes := #[] }
def k2m1 : Method := { name := "isExact", desc := "()Z", sig := { parameters := [], returnType := some .boolean }, accessFlags := 1, code := some k2c1 }
/-- com/example/outpost/outpost/model/Placement -/
def k2 : Class := { plain "com/example/outpost/outpost/model/Placement" (some 0) with
  accessFlags := 49
  interfaces := #[]
  cf := some (fileOf pool2 36 #[] #[{ accessFlags := 1, nameIndex := 5, descriptorIndex := 51, attributes := #[] }, { accessFlags := 1, nameIndex := 58, descriptorIndex := 59, attributes := #[] }] 49 2 #[] #[{ accessFlags := 18, nameIndex := 39, descriptorIndex := 32, attributes := #[] }, { accessFlags := 18, nameIndex := 42, descriptorIndex := 43, attributes := #[] }, { accessFlags := 18, nameIndex := 46, descriptorIndex := 43, attributes := #[] }, { accessFlags := 18, nameIndex := 49, descriptorIndex := 50, attributes := #[] }])
  fields := #[{ name := "centers", type := (.array .int), accessFlags := 18, slot := 0, constantValue := 0 }, { name := "radius", type := .double, accessFlags := 18, slot := 1, constantValue := 0 }, { name := "lowerBound", type := .double, accessFlags := 18, slot := 2, constantValue := 0 }, { name := "factor", type := .int, accessFlags := 18, slot := 3, constantValue := 0 }]
  methods := #[k2m0, k2m1]
  instanceTypes := #[(.array .int), .double, .double, .int]
  staticTypes := #[]
  resolved := Array.replicate 83 none
  statics := none }

def pool3 : Array CpInfo := pool [(1, .class_ 2), (0, u "java/lang/Cloneable"), (0, .class_ 4), (0, u "java/lang/Object")] 2

/-- java/lang/Cloneable -/
def k3 : Class := { plain "java/lang/Cloneable" (some 0) with
  accessFlags := 1537
  interfaces := #[]
  cf := some (fileOf pool3 1 #[] #[] 1537 3 #[] #[])
  fields := #[]
  methods := #[]
  instanceTypes := #[]
  staticTypes := #[]
  resolved := Array.replicate 7 none
  statics := none }

def pool4 : Array CpInfo := pool [(1, u "java/io/Serializable"), (0, .class_ 1), (0, u "java/lang/Object"), (0, .class_ 3)] 3

/-- java/io/Serializable -/
def k4 : Class := { plain "java/io/Serializable" (some 0) with
  accessFlags := 1537
  interfaces := #[]
  cf := some (fileOf pool4 2 #[] #[] 1537 4 #[] #[])
  fields := #[]
  methods := #[]
  instanceTypes := #[]
  staticTypes := #[]
  resolved := Array.replicate 8 none
  statics := none }

/-- the primitive byte -/
def k5 : Class := { plain "byte" none with kind := .primitive 'B', accessFlags := 0x411 }
/-- [B -/
def k6 : Class := { plain "[B" (some 0) with kind := .array 5 .byte, interfaces := #[3, 4], accessFlags := 1041 }

/-- the primitive int -/
def k7 : Class := { plain "int" none with kind := .primitive 'I', accessFlags := 0x411 }
/-- [I -/
def k8 : Class := { plain "[I" (some 0) with kind := .array 7 .int, interfaces := #[3, 4], accessFlags := 1041 }

def heap : Heap := #[]
def classes : Array Class := #[k0, k1, k2, k3, k4, k5, k6, k7, k8]
def interned : List (Array UInt16 × Addr) := []
def slotsUsed : Nat := 0
def theMethod : MethodId := ⟨1, 1⟩
def args0 : Array Value := #[.int 5, .int 5, .int 5, .int 5]
def aboutOver (below : List Frame) : State where
  vm := { classes := classes, interned := interned.toArray }
  heap := heap
  slotsUsed := slotsUsed
  threads := #[{ frames := .invoking theMethod args0 :: below }]
def below0 : List Frame := [.native { method := ⟨0, 0⟩, args := #[] }]
def about1 : State := aboutOver below0
def p0 : Program := .bare "" "" ""
def e0 : Env := launch0.env 0 0 0
theorem w_frames : about1.frames = Frame.invoking theMethod args0 :: below0 := rfl
set_option maxRecDepth 65536 in
theorem w_args : argsFit about1.vm theMethod args0 = true := by decide +kernel
set_option maxRecDepth 65536 in
theorem w_heap : heapFits about1 = true := by decide +kernel
set_option maxRecDepth 65536 in
theorem w_runnable : about1.curStatus? = some .runnable := by decide +kernel
set_option maxRecDepth 65536 in
theorem w_alone : about1.alone = true := by decide +kernel
set_option maxRecDepth 65536 in
theorem w_named : about1.methodNamed? x = some theMethod := by decide +kernel
set_option maxRecDepth 65536 in
theorem w_hears : about1.hears theMethod below0 = true := by decide +kernel
set_option maxRecDepth 65536 in
theorem w_ripe : about1.ripe theMethod args0 below0 = true := by decide +kernel
theorem w_running : about1.status = .running := rfl
set_option maxRecDepth 65536 in
theorem w_room : about1.hasRoom e0.platform room_1 = true :=
  launch0.hasRoom_least _ room_1 (by decide +kernel) (by decide +kernel) (by decide +kernel) (by decide +kernel) (by decide +kernel) (by decide +kernel)
theorem allAtoms_all (ts : List Jvm.Cond) (a : Array Jvm.Value) (st : Jvm.State) : (allAtoms ts).before a st = ts.all (fun c => c.before a st) := by
  induction ts with
  | nil => rfl
  | cons c t ih =>
    show (Jvm.Cond.and c (allAtoms t)).before a st = _
    rw [Jvm.Cond.before_and, ih, List.all_cons]
def words1 : List Jvm.Cond := Jvm.Cond.code x code maxLocals ret :: tables_1
/-- a 'code' word, met by the world's own term for the bytes: nothing is compared byte by byte -/
theorem code_word {y : MethodName} {bytes : ByteArray} {mx : Nat} {rt : Option FieldType} {a : Array Value} {s : State} {m : MethodId} {meth : Method} {c : Code} (h1 : s.methodNamed? y = some m) (h2 : s.vm.method? m = some meth) (h3 : meth.code = some c) (h4 : c.code = bytes)
    (h5 : (c.maxLocals == mx && c.exceptionTable.isEmpty && decide (c.maxStack ≤ mostOperands) && decide (meth.sig.returnType = rt) && !meth.locks && decide (parseMethodDescriptor y.desc = some meth.sig)) = true) : (Jvm.Cond.code y bytes mx rt).before a s = true := by
  simp only [Bool.and_eq_true, beq_iff_eq, Bool.not_eq_true', decide_eq_true_eq] at h5
  obtain ⟨⟨⟨⟨⟨g1, g2⟩, g3⟩, g4⟩, g5⟩, g6⟩ := h5
  simp [Cond.before, Cond.holds, Cond.value, h1, h2, h3, h4, g1, g2, g3, g4, g5, g6]
def isCode : Jvm.Cond → Bool
  | .code _ _ _ _ => true
  | _ => false
theorem all_split {L : List Jvm.Cond} {P : Jvm.Cond → Bool} (h1 : L.all (fun c => isCode c || P c) = true) (h2 : ∀ c ∈ L.filter isCode, P c = true) : L.all P = true := by
  refine List.all_eq_true.mpr fun c hc => ?_
  have h := List.all_eq_true.mp h1 c hc
  rcases Bool.eq_false_or_eq_true (isCode c) with hi | hi
  · exact h2 c (List.mem_filter.mpr ⟨hc, hi⟩)
  · simpa [hi] using h
set_option maxRecDepth 65536 in
theorem w_c0 : (Jvm.Cond.code x code maxLocals ret).before args0 about1 = true := code_word (m := ⟨1, 1⟩) (meth := k1m1) (c := k1c1) (by decide +kernel) rfl rfl rfl (by decide +kernel)
set_option maxRecDepth 65536 in
theorem w_c1 : (Jvm.Cond.code ({ cls := "com/example/outpost/outpost/model/Placement", name := "<init>", desc := "([IDDI)V" } : Jvm.MethodName) prog_70_method_1_code (8 : Nat) (Option.none : Option Jvm.ClassFile.FieldType)).before args0 about1 = true := code_word (m := ⟨2, 0⟩) (meth := k2m0) (c := k2c0) (by decide +kernel) rfl rfl rfl (by decide +kernel)
set_option maxRecDepth 65536 in
theorem w_c2 : (Jvm.Cond.code ({ cls := "java/lang/Object", name := "<init>", desc := "()V" } : Jvm.MethodName) object_method_1_code (1 : Nat) (Option.none : Option Jvm.ClassFile.FieldType)).before args0 about1 = true := code_word (m := ⟨0, 0⟩) (meth := k0m0) (c := k0c0) (by decide +kernel) rfl rfl rfl (by decide +kernel)
set_option maxRecDepth 65536 in
theorem w_c3 : (Jvm.Cond.code ({ cls := "com/example/outpost/outpost/model/Placement", name := "isExact", desc := "()Z" } : Jvm.MethodName) prog_70_method_6_code (1 : Nat) (Option.some Jvm.ClassFile.FieldType.boolean)).before args0 about1 = true := code_word (m := ⟨2, 1⟩) (meth := k2m1) (c := k2c1) (by decide +kernel) rfl rfl rfl (by decide +kernel)
def codes1 : List Jvm.Cond := [Jvm.Cond.code x code maxLocals ret, Jvm.Cond.code ({ cls := "com/example/outpost/outpost/model/Placement", name := "<init>", desc := "([IDDI)V" } : Jvm.MethodName) prog_70_method_1_code (8 : Nat) (Option.none : Option Jvm.ClassFile.FieldType), Jvm.Cond.code ({ cls := "java/lang/Object", name := "<init>", desc := "()V" } : Jvm.MethodName) object_method_1_code (1 : Nat) (Option.none : Option Jvm.ClassFile.FieldType), Jvm.Cond.code ({ cls := "com/example/outpost/outpost/model/Placement", name := "isExact", desc := "()Z" } : Jvm.MethodName) prog_70_method_6_code (1 : Nat) (Option.some Jvm.ClassFile.FieldType.boolean)]
set_option maxRecDepth 65536 in
theorem codes_eq : words1.filter isCode = codes1 := rfl
theorem w_codes : ∀ c ∈ words1.filter isCode, c.before args0 about1 = true := by
  rw [codes_eq]
  intro c hc
  simp only [codes1, List.mem_cons, List.not_mem_nil, or_false] at hc
  rcases hc with rfl | rfl | rfl | rfl
  · exact w_c0
  · exact w_c1
  · exact w_c2
  · exact w_c3
set_option maxRecDepth 65536 in
theorem w_t1 : (words1.take 24).all (fun c => isCode c || c.before args0 about1) = true := by decide +kernel
set_option maxRecDepth 65536 in
theorem w_t2 : (words1.drop 24).all (fun c => isCode c || c.before args0 about1) = true := by decide +kernel
theorem w_tables : (allAtoms (Jvm.Cond.code x code maxLocals ret :: tables_1)).before args0 about1 = true := by
  rw [allAtoms_all]
  show words1.all (fun c => c.before args0 about1) = true
  refine all_split ?_ w_codes
  rw [← List.take_append_drop 24 words1, List.all_append, w_t1, w_t2]
  rfl
set_option maxRecDepth 65536 in
theorem w_case : (Jvm.Cond.and given_1 narrow_1).before args0 about1 = true := by decide +kernel
theorem w_applies : (headSpec (Jvm.Cond.code x code maxLocals ret :: tables_1) room_1).applies x e0.platform about1 = true :=
  (Spec.applies_iff w_frames).mpr ⟨w_running, w_runnable, w_alone, w_named, w_hears, w_ripe, w_room, w_tables⟩
theorem atStart : AtStart classFile x code maxLocals ret World_1 tables_1 room_1 Calls_1 rest_1 Pre_1 launch0 p0 e0 about1 theMethod args0 below0 :=
  ⟨lists_1, trivial, launch0.admits_env _ _ _, launch0.least_env, fairChoices_fair.cas, fairChoices_fair.clock, w_frames, w_args, w_heap, w_applies, trivial, trivial, w_case⟩
end start1
theorem witness_1 : WitnessClaimed_1 := ⟨start1.p0, start1.e0, start1.about1, start1.theMethod, start1.args0, start1.below0, start1.atStart⟩
end Jvm.Pilot.@@N@@
