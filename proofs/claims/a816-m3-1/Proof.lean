import JvmDerived
import JvmDerived.Pilot.@@N@@Statement
import JvmDerived.Pilot.@@N@@Code
set_option linter.unusedVariables false
set_option linter.unusedSimpArgs false
namespace Jvm.OwnFl
open Jvm.FP.Core
/-- the value of a double that is no NaN, counted in units of the least double -/
def own_z (x : UInt64) : Int := zval b64 (val64 x)
/-- how many of those units make 1 -/
def own_pw (n : Nat) : Nat := if h : n = 0 then 1 else 2 * own_pw (n - 1)
termination_by n
decreasing_by omega
theorem own_pw_eq (n : Nat) : own_pw n = 2 ^ n := by
  induction n with
  | zero => rw [own_pw]; rfl
  | succ k ih => rw [own_pw, dif_neg (Nat.succ_ne_zero k), Nat.add_sub_cancel, ih, Nat.pow_succ, Nat.mul_comm]
def own_U : Nat := own_pw 1074
theorem own_U_eq : own_U = 2 ^ 1074 := own_pw_eq 1074
theorem own_U_pos : (0 : Int) < (own_U : Int) := Int.natCast_pos.mpr (own_U_eq ▸ Nat.two_pow_pos 1074)
/-- a whole number of units that is a finite double -/
def own_rep (z : Int) : Prop := ∃ (c : Int) (j : Nat), z = c * ((2 ^ j : Nat) : Int) ∧ c.natAbs < 2 ^ 53 ∧ j ≤ 2045
theorem own_signed (c : Int) : signed (decide (c < 0)) c.natAbs = c := by
  unfold signed
  by_cases h : c < 0
  · simp only [h, decide_true, if_true]; omega
  · simp only [h, decide_false, Bool.false_eq_true, if_false]; omega
theorem own_datum {z : Int} (h : own_rep z) : ∃ s c q, Jvm.FP.Core.fits b64 (.fin s c q) ∧ zval b64 (.fin s c q) = z := by
  obtain ⟨c, j, rfl, hc, hj⟩ := h
  have hm : b64.qmax = 971 := by decide
  have hq := qmin_b64
  obtain ⟨c', q', h1, h2⟩ := round_exact good_b64 (decide (c < 0)) (c := c.natAbs) (q := b64.qmin + (j : Int)) hc (by omega) (by omega)
  refine ⟨_, c', q', h1 ▸ round_fits good_b64 _, ?_⟩
  show signed (decide (c < 0)) (inUnits c' q' b64.qmin) = _
  rw [h2]
  unfold inUnits
  rw [show (b64.qmin + (j : Int) - b64.qmin).toNat = j by omega, signed_mul, own_signed]
theorem own_top {z : Int} (h : own_rep z) : z.natAbs < 2 ^ 2098 := by
  obtain ⟨c, j, rfl, hc, hj⟩ := h
  rw [Int.natAbs_mul, Int.natAbs_natCast]
  have h1 : 2 ^ j ≤ 2 ^ 2045 := Nat.pow_le_pow_right (by decide) hj
  have h2 : c.natAbs * 2 ^ j ≤ c.natAbs * 2 ^ 2045 := Nat.mul_le_mul_left _ h1
  have h3 : c.natAbs * 2 ^ 2045 < 2 ^ 53 * 2 ^ 2045 := Nat.mul_lt_mul_of_pos_right hc (Nat.two_pow_pos _)
  have h4 : (2 : Nat) ^ 53 * 2 ^ 2045 = 2 ^ 2098 := (Nat.pow_add 2 53 2045).symm
  rw [h4] at h3
  exact Nat.lt_of_le_of_lt h2 h3
theorem own_fin_of {x : UInt64} {z : Int} (hn : val64 x ≠ .nan) (hz : own_z x = z) (h : own_rep z) : DFin x := by
  cases hv : val64 x with
  | nan => exact absurd hv hn
  | inf s =>
    exfalso
    have e : own_z x = signed s (b64.tails * 2 ^ (b64.exps - 2)) := by unfold own_z; rw [hv]; rfl
    have l := own_top h
    rw [← hz, e, natAbs_signed] at l
    have t : b64.tails * 2 ^ (b64.exps - 2) = 2 ^ 2098 := by
      rw [tails_b64, show b64.exps - 2 = 2046 by decide]
      exact (Nat.pow_add 2 52 2046).symm
    rw [t] at l
    exact Nat.lt_irrefl _ l
  | fin s c q => exact ⟨s, c, q, hv⟩
theorem own_round_nn (s : Bool) (c : Nat) (q : Int) : round b64 (.fin s c q) ≠ .nan := roundRatio_ne_nan b64 s c 1 q
theorem own_add {x y : UInt64} (hx : DFin x) (hy : DFin y) (h : own_rep (own_z x + own_z y)) : DFin (dadd x y) ∧ own_z (dadd x y) = own_z x + own_z y := by
  obtain ⟨s, c, q, fV, zV⟩ := own_datum h
  have e : own_z (dadd x y) = own_z x + own_z y := by
    show zval b64 (val64 (dadd x y)) = _
    rw [val64_dadd]
    have h1 := sum_le good_b64 hx hy (val64_fits x) (val64_fits y) fV (fun q => Datum.noConfusion q) (Int.le_of_eq zV.symm)
    have h2 := sum_ge good_b64 hx hy (val64_fits x) (val64_fits y) fV (fun q => Datum.noConfusion q) (Int.le_of_eq zV)
    rw [zV] at h1 h2
    exact Int.le_antisymm h1 h2
  refine ⟨own_fin_of ?_ e h, e⟩
  rw [val64_dadd]
  obtain ⟨s1, c1, q1, e1⟩ := hx
  obtain ⟨s2, c2, q2, e2⟩ := hy
  rw [e1, e2]
  exact own_round_nn _ _ _
theorem own_neg {x : UInt64} (hx : DFin x) : DFin (dneg x) ∧ own_z (dneg x) = - own_z x := by
  obtain ⟨s, c, q, e⟩ := hx
  constructor
  · exact ⟨!s, c, q, by rw [val64_dneg, e]; rfl⟩
  · show zval b64 (val64 (dneg x)) = _
    rw [val64_dneg, zval_negate]; rfl
theorem own_sub {x y : UInt64} (hx : DFin x) (hy : DFin y) (h : own_rep (own_z x - own_z y)) : DFin (dsub x y) ∧ own_z (dsub x y) = own_z x - own_z y := by
  obtain ⟨n1, n2⟩ := own_neg hy
  have e : own_z x + own_z (dneg y) = own_z x - own_z y := by rw [n2]; omega
  have k := own_add hx n1 (e ▸ h)
  rw [dsub_eq]
  exact ⟨k.1, k.2.trans e⟩
theorem own_signed_mul2 (s t : Bool) (a b : Nat) : signed (s != t) (a * b) = signed s a * signed t b := by
  cases s <;> cases t <;> simp [signed, Int.natCast_mul, Int.neg_mul, Int.mul_neg]
theorem own_mul {x y : UInt64} {z : Int} (hx : DFin x) (hy : DFin y) (h : own_rep z) (e : own_z x * own_z y = z * (own_U : Int)) : DFin (dmul x y) ∧ own_z (dmul x y) = z := by
  obtain ⟨s, c, q, e1⟩ := hx
  obtain ⟨t, d, r, e2⟩ := hy
  obtain ⟨s', c', q', fV, zV⟩ := own_datum h
  have f1 : Jvm.FP.Core.fits b64 (.fin s c q) := e1 ▸ val64_fits x
  have f2 : Jvm.FP.Core.fits b64 (.fin t d r) := e2 ▸ val64_fits y
  obtain ⟨p1, p2, p3⟩ := product_units f1 f2
  have u1 : own_z x = signed s (zmag b64 (.fin s c q)) := by unfold own_z; rw [e1]; rfl
  have u2 : own_z y = signed t (zmag b64 (.fin t d r)) := by unfold own_z; rw [e2]; rfl
  have hs : signed (s != t) (inUnits (c * d) (q + r) (2 * b64.qmin)) = zval b64 (.fin s' c' q') * ((2 ^ (b64.qmin - 2 * b64.qmin).toNat : Nat) : Int) := by
    rw [p3, own_signed_mul2, ← u1, ← u2, e, zV, show (b64.qmin - 2 * b64.qmin).toNat = 1074 by rw [qmin_b64]; rfl, own_U_eq]
  have hq := qmin_b64
  have k : own_z (dmul x y) = z := by
    show zval b64 (val64 (dmul x y)) = _
    rw [val64_dmul, e1, e2, p1]
    have h1 := zval_round_le good_b64 (s := (s != t)) (c := c * d) (q := q + r) (e0 := 2 * b64.qmin) fV (fun q => Datum.noConfusion q) (by omega) p2 (Int.le_of_eq hs)
    have h2 := zval_round_ge good_b64 (s := (s != t)) (c := c * d) (q := q + r) (e0 := 2 * b64.qmin) fV (fun q => Datum.noConfusion q) (by omega) p2 (Int.le_of_eq hs.symm)
    rw [zV] at h1 h2
    exact Int.le_antisymm h1 h2
  refine ⟨own_fin_of ?_ k h, k⟩
  rw [val64_dmul, e1, e2, p1]
  exact own_round_nn _ _ _
theorem own_nonneg {s : Bool} {m : Nat} (h : 0 ≤ signed s m) : signed s m = (m : Int) := by
  cases s
  · rfl
  · simp only [signed, if_true] at h ⊢; omega
theorem own_pos_sign {s : Bool} {m : Nat} (h : 0 < signed s m) : s = false := by
  cases s
  · rfl
  · simp only [signed, if_true] at h; omega
/-- the quotient of two finite doubles, the divisor not nought -/
theorem own_quot {x y : UInt64} {s t : Bool} {c d : Nat} {q r : Int} (e1 : val64 x = .fin s c q) (e2 : val64 y = .fin t d r) (hd : d ≠ 0) : val64 (ddiv x y) = roundRatio b64 (s != t) c d (q - r) := by
  rw [val64_ddiv, e1, e2]
  unfold quotient
  exact if_neg hd
theorem own_zmag_ne {t : Bool} {d : Nat} {r : Int} (h : signed t (zmag b64 (.fin t d r)) ≠ 0) : d ≠ 0 := by
  intro e
  apply h
  subst e
  show signed t (inUnits 0 r b64.qmin) = 0
  unfold inUnits
  rw [Nat.zero_mul]
  exact signed_zero t
theorem own_pow_shift {A B u v u' v' : Nat} (h : A * 2 ^ u = B * 2 ^ v) (he : u + v' = u' + v) : A * 2 ^ u' = B * 2 ^ v' := by
  refine Nat.eq_of_mul_eq_mul_right (Nat.two_pow_pos v) ?_
  calc A * 2 ^ u' * 2 ^ v = A * 2 ^ (u' + v) := by rw [Nat.mul_assoc, ← Nat.pow_add]
    _ = A * 2 ^ (u + v') := by rw [he]
    _ = A * 2 ^ u * 2 ^ v' := by rw [Nat.mul_assoc, ← Nat.pow_add]
    _ = B * 2 ^ v * 2 ^ v' := by rw [h]
    _ = B * 2 ^ v' * 2 ^ v := by ac_rfl
theorem own_zv {x : UInt64} {s : Bool} {c : Nat} {q : Int} (e : val64 x = .fin s c q) : own_z x = signed s (c * 2 ^ (q - b64.qmin).toNat) := by
  unfold own_z; rw [e]; rfl
theorem own_c0 {s : Bool} {c k : Nat} (h : signed s (c * 2 ^ k) = 0) : c = 0 := by
  rw [signed_eq_zero] at h
  rcases Nat.mul_eq_zero.mp h with h | h
  · exact h
  · have := Nat.two_pow_pos k; omega
theorem own_rr0 (s : Bool) (B : Nat) (e : Int) : zval b64 (roundRatio b64 s 0 B e) = 0 := by
  unfold roundRatio
  rw [if_pos rfl]
  show signed s (inUnits 0 b64.qmin b64.qmin) = 0
  unfold inUnits
  rw [Nat.zero_mul]
  exact signed_zero s
/-- two quotients of one value, none negative -/
theorem own_div_congr {x y x' y' : UInt64} (hx : DFin x) (hy : DFin y) (hx' : DFin x') (hy' : DFin y') (px : 0 ≤ own_z x) (py : 0 < own_z y) (px' : 0 ≤ own_z x') (py' : 0 < own_z y')
    (h : own_z x * own_z y' = own_z x' * own_z y) : own_z (ddiv x y) = own_z (ddiv x' y') := by
  obtain ⟨s, c, q, e1⟩ := hx
  obtain ⟨t, d, r, e2⟩ := hy
  obtain ⟨s', c', q', e1'⟩ := hx'
  obtain ⟨t', d', r', e2'⟩ := hy'
  have f1 : b64.qmin ≤ q := (e1 ▸ val64_fits x : Jvm.FP.Core.fits b64 (.fin s c q)).2.1
  have f2 : b64.qmin ≤ r := (e2 ▸ val64_fits y : Jvm.FP.Core.fits b64 (.fin t d r)).2.1
  have f1' : b64.qmin ≤ q' := (e1' ▸ val64_fits x' : Jvm.FP.Core.fits b64 (.fin s' c' q')).2.1
  have f2' : b64.qmin ≤ r' := (e2' ▸ val64_fits y' : Jvm.FP.Core.fits b64 (.fin t' d' r')).2.1
  rw [own_zv e2] at py h
  rw [own_zv e2'] at py' h
  rw [own_zv e1] at px h
  rw [own_zv e1'] at px' h
  have ht := own_pos_sign py
  have ht' := own_pos_sign py'
  have d0 : d ≠ 0 := fun z => by rw [z, Nat.zero_mul, signed_zero] at py; exact Int.lt_irrefl _ py
  have d0' : d' ≠ 0 := fun z => by rw [z, Nat.zero_mul, signed_zero] at py'; exact Int.lt_irrefl _ py'
  show zval b64 (val64 (ddiv x y)) = zval b64 (val64 (ddiv x' y'))
  rw [own_quot e1 e2 d0, own_quot e1' e2' d0']
  rw [own_nonneg px, own_nonneg px', own_nonneg (Int.le_of_lt py), own_nonneg (Int.le_of_lt py'), ← Int.natCast_mul, ← Int.natCast_mul] at h
  have hN : c * 2 ^ (q - b64.qmin).toNat * (d' * 2 ^ (r' - b64.qmin).toNat) = c' * 2 ^ (q' - b64.qmin).toNat * (d * 2 ^ (r - b64.qmin).toNat) := Int.natCast_inj.mp h
  have hP : c * d' * 2 ^ ((q - b64.qmin).toNat + (r' - b64.qmin).toNat) = c' * d * 2 ^ ((q' - b64.qmin).toNat + (r - b64.qmin).toNat) := by
    rw [Nat.pow_add, Nat.pow_add]
    calc c * d' * (2 ^ (q - b64.qmin).toNat * 2 ^ (r' - b64.qmin).toNat) = c * 2 ^ (q - b64.qmin).toNat * (d' * 2 ^ (r' - b64.qmin).toNat) := by ac_rfl
      _ = c' * 2 ^ (q' - b64.qmin).toNat * (d * 2 ^ (r - b64.qmin).toNat) := hN
      _ = c' * d * (2 ^ (q' - b64.qmin).toNat * 2 ^ (r - b64.qmin).toNat) := by ac_rfl
  have hC : c * d' * 2 ^ ((q - r) - (q' - r')).toNat = c' * d * 2 ^ ((q' - r') - (q - r)).toNat := own_pow_shift hP (by omega)
  by_cases hz : c = 0
  · have hz' : c' = 0 := by
      rw [hz, Nat.zero_mul, Nat.zero_mul] at hC
      rcases Nat.mul_eq_zero.mp hC.symm with k | k
      · rcases Nat.mul_eq_zero.mp k with k | k
        · exact k
        · exact absurd k d0
      · have := Nat.two_pow_pos ((q' - r') - (q - r)).toNat; omega
    rw [hz, hz', own_rr0, own_rr0]
  · have hz' : c' ≠ 0 := by
      intro k
      rw [k, Nat.zero_mul, Nat.zero_mul] at hC
      rcases Nat.mul_eq_zero.mp hC with k | k
      · rcases Nat.mul_eq_zero.mp k with k | k
        · exact hz k
        · exact d0' k
      · have := Nat.two_pow_pos ((q - r) - (q' - r')).toNat; omega
    have sx : s = false := by
      cases s
      · rfl
      · exfalso
        have := Nat.mul_pos (Nat.pos_of_ne_zero hz) (Nat.two_pow_pos (q - b64.qmin).toNat)
        simp only [signed, if_true] at px
        omega
    have sx' : s' = false := by
      cases s'
      · rfl
      · exfalso
        have := Nat.mul_pos (Nat.pos_of_ne_zero hz') (Nat.two_pow_pos (q' - b64.qmin).toNat)
        simp only [signed, if_true] at px'
        omega
    rw [ht, ht', sx, sx', roundRatio_congr (Nat.pos_of_ne_zero d0) (Nat.pos_of_ne_zero d0') hC]
/-- an exact quotient, nothing negative -/
theorem own_div {x y : UInt64} {z : Int} (hx : DFin x) (hy : DFin y) (px : 0 ≤ own_z x) (py : 0 < own_z y) (h : own_rep z) (e : own_z x * (own_U : Int) = z * own_z y) : DFin (ddiv x y) ∧ own_z (ddiv x y) = z := by
  obtain ⟨s, c, q, e1⟩ := hx
  obtain ⟨t, d, r, e2⟩ := hy
  obtain ⟨sv, cv, qv, fV, zV⟩ := own_datum h
  have f1 := (e1 ▸ val64_fits x : Jvm.FP.Core.fits b64 (.fin s c q))
  have f2 := (e2 ▸ val64_fits y : Jvm.FP.Core.fits b64 (.fin t d r))
  have pz : 0 ≤ z := by
    refine Int.not_lt.mp fun k => ?_
    have h1 : z * own_z y < 0 := Int.mul_neg_of_neg_of_pos k py
    have h2 : 0 ≤ own_z x * (own_U : Int) := Int.mul_nonneg px (Int.le_of_lt own_U_pos)
    omega
  have hq := qmin_b64
  have hm : b64.qmax = 971 := by decide
  have q1 := f1.2.1
  have q2 := f1.2.2.1
  have q3 := f2.2.1
  have q4 := f2.2.2.1
  have zM : (zmag b64 (.fin sv cv qv) : Int) = z := by
    have k : 0 ≤ signed sv (zmag b64 (.fin sv cv qv)) := by rw [show signed sv (zmag b64 (.fin sv cv qv)) = z from zV]; exact pz
    rw [← own_nonneg k]; exact zV
  rw [own_zv e1] at px e
  rw [own_zv e2] at py e
  have ht := own_pos_sign py
  have d0 : d ≠ 0 := fun k => by rw [k, Nat.zero_mul, signed_zero] at py; exact Int.lt_irrefl _ py
  rw [own_nonneg px, own_nonneg (Int.le_of_lt py), ← zM, ← Int.natCast_mul, ← Int.natCast_mul] at e
  have hN : c * 2 ^ (q - b64.qmin).toNat * own_U = zmag b64 (.fin sv cv qv) * (d * 2 ^ (r - b64.qmin).toNat) := Int.natCast_inj.mp e
  generalize hmv : zmag b64 (.fin sv cv qv) = mv at hN zM
  have hP : c * 2 ^ ((q - b64.qmin).toNat + 1074) = mv * d * 2 ^ (r - b64.qmin).toNat := by
    rw [Nat.pow_add, ← Nat.mul_assoc, ← own_U_eq, hN, Nat.mul_assoc]
  have hC : c * 2 ^ (q - r - (-4000)).toNat = mv * d * 2 ^ (b64.qmin - (-4000)).toNat := own_pow_shift hP (by omega)
  have hE : inUnits c (q - r) (-4000) = zmag b64 (.fin sv cv qv) * 2 ^ (b64.qmin - (-4000)).toNat * d := by
    unfold inUnits
    rw [hC, hmv]; exact Nat.mul_right_comm _ _ _
  have l1 := zmag_roundRatio_le good_b64 (s := (s != t)) (A := c) (B := d) (e := q - r) (e0 := -4000) (V := .fin sv cv qv) (Nat.pos_of_ne_zero d0) fV (fun q => Datum.noConfusion q) (by omega) (by omega) (Nat.le_of_eq hE)
  have l2 := zmag_roundRatio_ge good_b64 (s := (s != t)) (A := c) (B := d) (e := q - r) (e0 := -4000) (V := .fin sv cv qv) (Nat.pos_of_ne_zero d0) fV (by omega) (by omega) (Nat.le_of_eq hE.symm)
  have l3 : zmag b64 (roundRatio b64 (s != t) c d (q - r)) = mv := by rw [← hmv]; exact Nat.le_antisymm l1 l2
  have k : own_z (ddiv x y) = z := by
    show zval b64 (val64 (ddiv x y)) = z
    rw [own_quot e1 e2 d0]
    by_cases hz : c = 0
    · rw [hz, own_rr0]
      rw [hz, Nat.zero_mul] at hP
      have : mv * d * 2 ^ (r - b64.qmin).toNat = 0 := hP.symm
      rcases Nat.mul_eq_zero.mp this with k | k
      · rcases Nat.mul_eq_zero.mp k with k | k
        · rw [← zM, k]; rfl
        · exact absurd k d0
      · have := Nat.two_pow_pos (r - b64.qmin).toNat; omega
    · have sx : s = false := by
        cases s
        · rfl
        · exfalso
          have := Nat.mul_pos (Nat.pos_of_ne_zero hz) (Nat.two_pow_pos (q - b64.qmin).toNat)
          simp only [signed, if_true] at px
          omega
      unfold zval
      rw [sgn_roundRatio, l3, ht, sx, ← zM]
      rfl
  refine ⟨own_fin_of ?_ k h, k⟩
  rw [own_quot e1 e2 d0]
  exact roundRatio_ne_nan _ _ _ _ _
theorem own_pow_shift_le {A B u v u' v' : Nat} (h : A * 2 ^ u ≤ B * 2 ^ v) (he : u + v' = u' + v) : A * 2 ^ u' ≤ B * 2 ^ v' := by
  refine Nat.le_of_mul_le_mul_right ?_ (Nat.two_pow_pos v)
  calc A * 2 ^ u' * 2 ^ v = A * 2 ^ (u' + v) := by rw [Nat.mul_assoc, ← Nat.pow_add]
    _ = A * 2 ^ (u + v') := by rw [he]
    _ = A * 2 ^ u * 2 ^ v' := by rw [Nat.mul_assoc, ← Nat.pow_add]
    _ ≤ B * 2 ^ v * 2 ^ v' := Nat.mul_le_mul_right _ h
    _ = B * 2 ^ v' * 2 ^ v := by ac_rfl
/-- what a quotient that isn't negative is, by its magnitude -/
theorem own_div_mag {x y : UInt64} (hx : DFin x) (hy : DFin y) (px : 0 ≤ own_z x) (py : 0 < own_z y) : ∃ (c d : Nat) (q r : Int), b64.qmin ≤ q ∧ q ≤ b64.qmax ∧ b64.qmin ≤ r ∧ r ≤ b64.qmax ∧ 0 < d ∧
    own_z x = ((c * 2 ^ (q - b64.qmin).toNat : Nat) : Int) ∧ own_z y = ((d * 2 ^ (r - b64.qmin).toNat : Nat) : Int) ∧ val64 (ddiv x y) ≠ .nan ∧ ∃ s, own_z (ddiv x y) = (zmag b64 (roundRatio b64 s c d (q - r)) : Int) := by
  obtain ⟨s, c, q, e1⟩ := hx
  obtain ⟨t, d, r, e2⟩ := hy
  have f1 := (e1 ▸ val64_fits x : Jvm.FP.Core.fits b64 (.fin s c q))
  have f2 := (e2 ▸ val64_fits y : Jvm.FP.Core.fits b64 (.fin t d r))
  rw [own_zv e1] at px
  rw [own_zv e2] at py
  have d0 : d ≠ 0 := fun k => by rw [k, Nat.zero_mul, signed_zero] at py; exact Int.lt_irrefl _ py
  refine ⟨c, d, q, r, f1.2.1, f1.2.2.1, f2.2.1, f2.2.2.1, Nat.pos_of_ne_zero d0, by rw [own_zv e1, own_nonneg px], by rw [own_zv e2, own_nonneg (Int.le_of_lt py)], ?_, (s != t), ?_⟩
  · rw [own_quot e1 e2 d0]; exact roundRatio_ne_nan _ _ _ _ _
  · show zval b64 (val64 (ddiv x y)) = _
    rw [own_quot e1 e2 d0]
    by_cases hz : c = 0
    · have k : zval b64 (roundRatio b64 (s != t) c d (q - r)) = 0 := by rw [hz]; exact own_rr0 _ _ _
      have k2 := k
      unfold zval at k2
      rw [signed_eq_zero] at k2
      rw [k, k2]; rfl
    · have sx : s = false := by
        cases s
        · rfl
        · exfalso
          have := Nat.mul_pos (Nat.pos_of_ne_zero hz) (Nat.two_pow_pos (q - b64.qmin).toNat)
          simp only [signed, if_true] at px
          omega
      unfold zval
      rw [sgn_roundRatio, own_pos_sign py, sx]
      rfl
theorem own_div_nonneg {x y : UInt64} (hx : DFin x) (hy : DFin y) (px : 0 ≤ own_z x) (py : 0 < own_z y) : val64 (ddiv x y) ≠ .nan ∧ 0 ≤ own_z (ddiv x y) := by
  obtain ⟨c, d, q, r, -, -, -, -, -, -, -, h1, s, h2⟩ := own_div_mag hx hy px py
  exact ⟨h1, by rw [h2]; exact Int.natCast_nonneg _⟩
theorem own_mag_val {w : UInt64} (pw : 0 ≤ own_z w) : own_z w = (zmag b64 (val64 w) : Int) := own_nonneg pw
theorem own_div_le {x y w : UInt64} (hx : DFin x) (hy : DFin y) (px : 0 ≤ own_z x) (py : 0 < own_z y) (hw : val64 w ≠ .nan) (pw : 0 ≤ own_z w) (h : own_z x * (own_U : Int) ≤ own_z w * own_z y) : own_z (ddiv x y) ≤ own_z w := by
  obtain ⟨c, d, q, r, q1, q2, q3, q4, d0, zx, zy, -, s, zq⟩ := own_div_mag hx hy px py
  have hq := qmin_b64
  have hm : b64.qmax = 971 := by decide
  rw [zq, own_mag_val pw]
  rw [zx, zy, own_mag_val pw, ← Int.natCast_mul, ← Int.natCast_mul] at h
  have hN : c * 2 ^ (q - b64.qmin).toNat * own_U ≤ zmag b64 (val64 w) * (d * 2 ^ (r - b64.qmin).toNat) := Int.ofNat_le.mp h
  have hP : c * 2 ^ ((q - b64.qmin).toNat + 1074) ≤ zmag b64 (val64 w) * d * 2 ^ (r - b64.qmin).toNat := by
    rw [Nat.pow_add, ← Nat.mul_assoc, Nat.mul_assoc (zmag b64 (val64 w)), ← own_U_eq]
    exact hN
  have hC : c * 2 ^ (q - r - (-4000)).toNat ≤ zmag b64 (val64 w) * d * 2 ^ (b64.qmin - (-4000)).toNat := own_pow_shift_le hP (by omega)
  refine Int.ofNat_le.mpr (zmag_roundRatio_le good_b64 (e0 := -4000) d0 (val64_fits w) hw (by omega) (by omega) ?_)
  unfold inUnits
  exact Nat.le_trans hC (Nat.le_of_eq (Nat.mul_right_comm _ _ _))
theorem own_div_ge {x y w : UInt64} (hx : DFin x) (hy : DFin y) (px : 0 ≤ own_z x) (py : 0 < own_z y) (pw : 0 ≤ own_z w) (h : own_z w * own_z y ≤ own_z x * (own_U : Int)) : own_z w ≤ own_z (ddiv x y) := by
  obtain ⟨c, d, q, r, q1, q2, q3, q4, d0, zx, zy, -, s, zq⟩ := own_div_mag hx hy px py
  have hq := qmin_b64
  have hm : b64.qmax = 971 := by decide
  rw [zq, own_mag_val pw]
  rw [zx, zy, own_mag_val pw, ← Int.natCast_mul, ← Int.natCast_mul] at h
  have hN : zmag b64 (val64 w) * (d * 2 ^ (r - b64.qmin).toNat) ≤ c * 2 ^ (q - b64.qmin).toNat * own_U := Int.ofNat_le.mp h
  have hP : zmag b64 (val64 w) * d * 2 ^ (r - b64.qmin).toNat ≤ c * 2 ^ ((q - b64.qmin).toNat + 1074) := by
    rw [Nat.pow_add, ← Nat.mul_assoc, Nat.mul_assoc (zmag b64 (val64 w)), ← own_U_eq]
    exact hN
  have hC : zmag b64 (val64 w) * d * 2 ^ (b64.qmin - (-4000)).toNat ≤ c * 2 ^ (q - r - (-4000)).toNat := own_pow_shift_le hP (by omega)
  refine Int.ofNat_le.mpr (zmag_roundRatio_ge good_b64 (e0 := -4000) d0 (val64_fits w) (by omega) (by omega) ?_)
  unfold inUnits
  exact Nat.le_trans (Nat.le_of_eq (Nat.mul_right_comm _ _ _)) hC
/-- x is finite and is n / 2^k -/
def own_is (x : UInt64) (n : Int) (k : Nat) : Prop := DFin x ∧ own_z x * ((2 ^ k : Nat) : Int) = n * (own_U : Int)
theorem own_two_pos (k : Nat) : (0 : Int) < ((2 ^ k : Nat) : Int) := Int.natCast_pos.mpr (Nat.two_pow_pos k)
theorem own_U_split {k : Nat} (hk : k ≤ 1074) : (own_U : Int) = ((2 ^ (1074 - k) : Nat) : Int) * ((2 ^ k : Nat) : Int) := by
  rw [← Int.natCast_mul, ← Nat.pow_add, Nat.sub_add_cancel hk, own_U_eq]
theorem own_rep_of {z n : Int} {k : Nat} (h : z * ((2 ^ k : Nat) : Int) = n * (own_U : Int)) (hn : n.natAbs < 2 ^ 53) (hk : k ≤ 1074) : z = n * ((2 ^ (1074 - k) : Nat) : Int) ∧ own_rep z := by
  have e : z = n * ((2 ^ (1074 - k) : Nat) : Int) := by
    rw [own_U_split hk, ← Int.mul_assoc] at h
    exact Int.eq_of_mul_eq_mul_right (Int.ne_of_gt (own_two_pos k)) h
  exact ⟨e, n, 1074 - k, e, hn, by omega⟩
theorem own_is.nn {x : UInt64} {n : Int} {k : Nat} (h : own_is x n k) : Jvm.Free.Fl.NoNaN64 x := Jvm.Free.Fl.noNaN64_no.mpr ((notNaN_iff x).mpr (by obtain ⟨⟨s, c, q, e⟩, -⟩ := h; rw [e]; exact fun q => Datum.noConfusion q))
theorem own_is.fin {x : UInt64} {n : Int} {k : Nat} (h : own_is x n k) : Jvm.Free.Fl.Fin64 x := Jvm.Free.Fl.fin64_core.mpr h.1
theorem own_is.val {x : UInt64} {n : Int} {k : Nat} (h : own_is x n k) : val64 x ≠ .nan := by obtain ⟨⟨s, c, q, e⟩, -⟩ := h; rw [e]; exact fun q => Datum.noConfusion q
theorem own_is.add {x y : UInt64} {n m : Int} {k : Nat} (hx : own_is x n k) (hy : own_is y m k) (hn : (n + m).natAbs < 2 ^ 53) (hk : k ≤ 1074) : own_is (dadd x y) (n + m) k := by
  have e : (own_z x + own_z y) * ((2 ^ k : Nat) : Int) = (n + m) * (own_U : Int) := by rw [Int.add_mul, Int.add_mul, hx.2, hy.2]
  obtain ⟨a, b⟩ := own_add hx.1 hy.1 (own_rep_of e hn hk).2
  exact ⟨a, by rw [b]; exact e⟩
theorem own_is.sub {x y : UInt64} {n m : Int} {k : Nat} (hx : own_is x n k) (hy : own_is y m k) (hn : (n - m).natAbs < 2 ^ 53) (hk : k ≤ 1074) : own_is (dsub x y) (n - m) k := by
  have e : (own_z x - own_z y) * ((2 ^ k : Nat) : Int) = (n - m) * (own_U : Int) := by rw [Int.sub_mul, Int.sub_mul, hx.2, hy.2]
  obtain ⟨a, b⟩ := own_sub hx.1 hy.1 (own_rep_of e hn hk).2
  exact ⟨a, by rw [b]; exact e⟩
theorem own_is.mul {x y : UInt64} {n m : Int} {k j : Nat} (hx : own_is x n k) (hy : own_is y m j) (hn : (n * m).natAbs < 2 ^ 53) (hk : k + j ≤ 1074) : own_is (dmul x y) (n * m) (k + j) := by
  have hp : ((2 ^ (k + j) : Nat) : Int) = ((2 ^ k : Nat) : Int) * ((2 ^ j : Nat) : Int) := by rw [Nat.pow_add, Int.natCast_mul]
  have e0 : n * m * ((2 ^ (1074 - (k + j)) : Nat) : Int) * ((2 ^ (k + j) : Nat) : Int) = n * m * (own_U : Int) := by rw [own_U_split hk, Int.mul_assoc]
  have e : own_z x * own_z y = n * m * ((2 ^ (1074 - (k + j)) : Nat) : Int) * (own_U : Int) := by
    refine Int.eq_of_mul_eq_mul_right (Int.ne_of_gt (own_two_pos (k + j))) ?_
    calc own_z x * own_z y * ((2 ^ (k + j) : Nat) : Int) = (own_z x * ((2 ^ k : Nat) : Int)) * (own_z y * ((2 ^ j : Nat) : Int)) := by rw [hp]; ac_rfl
      _ = (n * (own_U : Int)) * (m * (own_U : Int)) := by rw [hx.2, hy.2]
      _ = n * m * (own_U : Int) * (own_U : Int) := by ac_rfl
      _ = n * m * ((2 ^ (1074 - (k + j)) : Nat) : Int) * ((2 ^ (k + j) : Nat) : Int) * (own_U : Int) := by rw [e0]
      _ = n * m * ((2 ^ (1074 - (k + j)) : Nat) : Int) * (own_U : Int) * ((2 ^ (k + j) : Nat) : Int) := by ac_rfl
  obtain ⟨a, b⟩ := own_mul hx.1 hy.1 (own_rep_of e0 hn hk).2 e
  exact ⟨a, by rw [b]; exact e0⟩
theorem own_is.div {x y : UInt64} {n m q : Int} {k j i : Nat} (hx : own_is x n k) (hy : own_is y m j) (pn : 0 ≤ n) (pm : 0 < m) (hq : q.natAbs < 2 ^ 53) (hi : i ≤ 1074)
    (h : n * ((2 ^ j : Nat) : Int) * ((2 ^ i : Nat) : Int) = q * m * ((2 ^ k : Nat) : Int)) : own_is (ddiv x y) q i := by
  have e0 : q * ((2 ^ (1074 - i) : Nat) : Int) * ((2 ^ i : Nat) : Int) = q * (own_U : Int) := by rw [own_U_split hi, Int.mul_assoc]
  have px : 0 ≤ own_z x := by
    refine Int.not_lt.mp fun z => ?_
    have h1 := Int.mul_neg_of_neg_of_pos z (own_two_pos k)
    have h2 := Int.mul_nonneg pn (Int.le_of_lt own_U_pos)
    rw [hx.2] at h1; omega
  have py : 0 < own_z y := by
    refine Int.not_le.mp fun z => ?_
    have h1 : own_z y * ((2 ^ j : Nat) : Int) ≤ 0 := Int.mul_nonpos_of_nonpos_of_nonneg z (Int.le_of_lt (own_two_pos j))
    have h2 := Int.mul_pos pm own_U_pos
    rw [hy.2] at h1; omega
  have e : own_z x * (own_U : Int) = q * ((2 ^ (1074 - i) : Nat) : Int) * own_z y := by
    refine Int.eq_of_mul_eq_mul_right (Int.ne_of_gt (Int.mul_pos (Int.mul_pos (own_two_pos k) (own_two_pos j)) (own_two_pos i))) ?_
    calc own_z x * (own_U : Int) * (((2 ^ k : Nat) : Int) * ((2 ^ j : Nat) : Int) * ((2 ^ i : Nat) : Int)) = (own_z x * ((2 ^ k : Nat) : Int)) * (own_U : Int) * ((2 ^ j : Nat) : Int) * ((2 ^ i : Nat) : Int) := by ac_rfl
      _ = (n * ((2 ^ j : Nat) : Int) * ((2 ^ i : Nat) : Int)) * (own_U : Int) * (own_U : Int) := by rw [hx.2]; ac_rfl
      _ = (q * (own_U : Int)) * (m * (own_U : Int)) * ((2 ^ k : Nat) : Int) := by rw [h]; ac_rfl
      _ = (q * ((2 ^ (1074 - i) : Nat) : Int) * ((2 ^ i : Nat) : Int)) * (own_z y * ((2 ^ j : Nat) : Int)) * ((2 ^ k : Nat) : Int) := by rw [e0, hy.2]
      _ = q * ((2 ^ (1074 - i) : Nat) : Int) * own_z y * (((2 ^ k : Nat) : Int) * ((2 ^ j : Nat) : Int) * ((2 ^ i : Nat) : Int)) := by ac_rfl
  obtain ⟨a, b⟩ := own_div hx.1 hy.1 px py (own_rep_of e0 hq hi).2 e
  exact ⟨a, by rw [b]; exact e0⟩
theorem own_is.scale {x : UInt64} {n : Int} {k : Nat} (h : own_is x n k) (i : Nat) : own_is x (n * ((2 ^ i : Nat) : Int)) (k + i) := by
  refine ⟨h.1, ?_⟩
  rw [Nat.pow_add, Int.natCast_mul, ← Int.mul_assoc, h.2]; ac_rfl
theorem own_is.l2d {a : Int64} (h : a.toInt.natAbs < 2 ^ 53) : own_is (l2d a) a.toInt 0 := by
  refine ⟨l2d_fin a, ?_⟩
  have hs : Small53 a := by unfold Small53; omega
  have e := whole_zval good_b64 (val64_fits (Jvm.FP.Core.l2d a)) (l2d_whole hs)
  rw [show (-b64.qmin).toNat = 1074 by rw [qmin_b64]; rfl] at e
  show zval b64 (val64 (Jvm.FP.Core.l2d a)) * _ = _
  rw [e, Nat.pow_zero]
  show _ * (1 : Int) = _
  rw [Int.mul_one, own_U_eq]
theorem own_is.i2d (a : Int32) : own_is (i2d a) a.toInt 0 := by
  rw [i2d_l2d]
  have h := own_is.l2d (a := a.toInt64) (by rw [Int32.toInt_toInt64]; have := a.le_toInt; have := a.toInt_lt; omega)
  rw [Int32.toInt_toInt64] at h
  exact h
theorem own_is.lt_iff {x y : UInt64} {n m : Int} {k : Nat} (hx : own_is x n k) (hy : own_is y m k) : own_z x < own_z y ↔ n < m := by
  have h1 : own_z x * ((2 ^ k : Nat) : Int) < own_z y * ((2 ^ k : Nat) : Int) ↔ own_z x < own_z y := Int.mul_lt_mul_right (own_two_pos k)
  rw [← h1, hx.2, hy.2]
  exact Int.mul_lt_mul_right own_U_pos
theorem own_is.eq_iff {x y : UInt64} {n m : Int} {k : Nat} (hx : own_is x n k) (hy : own_is y m k) : own_z x = own_z y ↔ n = m := by
  have h1 := hx.lt_iff hy
  have h2 := hy.lt_iff hx
  omega
theorem own_cmp_eq {x y : UInt64} (h1 : val64 x ≠ .nan) (h2 : val64 y ≠ .nan) (h : own_z x = own_z y) (o : ClassFile.CmpOp) : Jvm.Op.cmpValue (FP.dcmp x y) o = 0 := by
  rw [show FP.dcmp x y = some .eq from dcmp_eq.mpr ⟨h1, h2, h⟩]; rfl
theorem own_cmp_lt {x y : UInt64} (h1 : val64 x ≠ .nan) (h2 : val64 y ≠ .nan) (h : own_z x < own_z y) (o : ClassFile.CmpOp) : Jvm.Op.cmpValue (FP.dcmp x y) o = -1 := by
  rw [show FP.dcmp x y = some .lt from dcmp_lt.mpr ⟨h1, h2, h⟩]; rfl
theorem own_cmp_gt {x y : UInt64} (h1 : val64 x ≠ .nan) (h2 : val64 y ≠ .nan) (h : own_z y < own_z x) (o : ClassFile.CmpOp) : Jvm.Op.cmpValue (FP.dcmp x y) o = 1 := by
  rw [show FP.dcmp x y = some .gt from dcmp_gt.mpr ⟨h1, h2, h⟩]; rfl
theorem own_cmp_ge {x y : UInt64} (h1 : val64 x ≠ .nan) (h2 : val64 y ≠ .nan) (h : own_z y ≤ own_z x) (o : ClassFile.CmpOp) : ¬ Jvm.Op.cmpValue (FP.dcmp x y) o < 0 := by
  by_cases e : own_z x = own_z y
  · rw [own_cmp_eq h1 h2 e]; decide
  · rw [own_cmp_gt h1 h2 (by omega)]; decide
theorem own_cmp_le {x y : UInt64} (h1 : val64 x ≠ .nan) (h2 : val64 y ≠ .nan) (h : own_z x ≤ own_z y) (o : ClassFile.CmpOp) : ¬ 0 < Jvm.Op.cmpValue (FP.dcmp x y) o := by
  by_cases e : own_z x = own_z y
  · rw [own_cmp_eq h1 h2 e]; decide
  · rw [own_cmp_lt h1 h2 (by omega)]; decide
theorem own_nn_of {x : UInt64} (h : val64 x ≠ .nan) : Jvm.Free.Fl.NoNaN64 x := Jvm.Free.Fl.noNaN64_no.mpr ((notNaN_iff x).mpr h)
theorem own_is.nonneg {x : UInt64} {n : Int} {k : Nat} (hx : own_is x n k) (pn : 0 ≤ n) : 0 ≤ own_z x := by
  refine Int.not_lt.mp fun z => ?_
  have h1 := Int.mul_neg_of_neg_of_pos z (own_two_pos k)
  have h2 := Int.mul_nonneg pn (Int.le_of_lt own_U_pos)
  rw [hx.2] at h1; omega
theorem own_is.pos {x : UInt64} {n : Int} {k : Nat} (hx : own_is x n k) (pn : 0 < n) : 0 < own_z x := by
  refine Int.not_le.mp fun z => ?_
  have h1 : own_z x * ((2 ^ k : Nat) : Int) ≤ 0 := Int.mul_nonpos_of_nonpos_of_nonneg z (Int.le_of_lt (own_two_pos k))
  have h2 := Int.mul_pos pn own_U_pos
  rw [hx.2] at h1; omega
theorem own_is.z {x : UInt64} {n : Int} (hx : own_is x n 0) : own_z x = n * (own_U : Int) := by
  have h := hx.2
  rw [Nat.pow_zero] at h
  exact (Int.mul_one _).symm.trans h
theorem own_is.ceq {x y : UInt64} {n m : Int} {k : Nat} (hx : own_is x n k) (hy : own_is y m k) (h : n = m) (o : ClassFile.CmpOp) : Jvm.Op.cmpValue (FP.dcmp x y) o = 0 := own_cmp_eq hx.val hy.val ((hx.eq_iff hy).mpr h) o
theorem own_is.clt {x y : UInt64} {n m : Int} {k : Nat} (hx : own_is x n k) (hy : own_is y m k) (h : n < m) (o : ClassFile.CmpOp) : Jvm.Op.cmpValue (FP.dcmp x y) o = -1 := own_cmp_lt hx.val hy.val ((hx.lt_iff hy).mpr h) o
theorem own_is.cgt {x y : UInt64} {n m : Int} {k : Nat} (hx : own_is x n k) (hy : own_is y m k) (h : m < n) (o : ClassFile.CmpOp) : Jvm.Op.cmpValue (FP.dcmp x y) o = 1 := own_cmp_gt hx.val hy.val ((hy.lt_iff hx).mpr h) o
theorem own_is.zero : own_is FP.dconst0 0 0 := by
  refine ⟨⟨_, _, _, val64_dconst0⟩, ?_⟩
  show zval b64 (val64 dconst0) * _ = _
  rw [val64_dconst0, Int.zero_mul]
  show signed false (0 * _) * _ = _
  rw [Nat.zero_mul, signed_zero, Int.zero_mul]
theorem own_is.one : own_is FP.dconst1 1 0 := by
  refine ⟨⟨_, _, _, val64_dconst1⟩, ?_⟩
  show zval b64 (val64 dconst1) * _ = _
  rw [val64_dconst1, own_U_eq]
  decide +kernel
end Jvm.OwnFl
namespace Jvm.OwnFl
open Jvm.FP.Core
theorem own_zmag_sign (s s' : Bool) (A B : Nat) (e : Int) : zmag b64 (roundRatio b64 s A B e) = zmag b64 (roundRatio b64 s' A B e) := by
  unfold roundRatio
  split
  · rfl
  · unfold roundAt settle
    split
    · unfold bound
      split <;> rfl
    · unfold bound
      split <;> rfl
theorem own_dist {a x y : Nat} (hx : x < a) (hy : a < y) (h : ((a : Int) - (y : Int)).natAbs ≤ ((a : Int) - (x : Int)).natAbs) : x + y ≤ 2 * a := by omega
theorem own_dist' {a x y : Nat} (hx : x < a) (hy : a < y) (h : ((a : Int) - (x : Int)).natAbs ≤ ((a : Int) - (y : Int)).natAbs) : 2 * a ≤ x + y := by omega
/-- rounding is monotone -/
theorem own_rr_mono {s : Bool} {A B A' B' : Nat} {e e' e0 : Int} (hB : 0 < B) (hB' : 0 < B') (h0 : e0 < b64.qmin) (he : e0 ≤ e) (he' : e0 ≤ e') (h : inUnits A e e0 * B' ≤ inUnits A' e' e0 * B) :
    zmag b64 (roundRatio b64 s A B e) ≤ zmag b64 (roundRatio b64 s A' B' e') := by
  refine Nat.le_of_not_lt fun hlt => ?_
  have h0' : e0 ≤ b64.qmin := by omega
  have fW := roundRatio_fits good_b64 s A hB e
  have fV := roundRatio_fits good_b64 s A' hB' e'
  have nW := roundRatio_ne_nan b64 s A B e
  have nV := roundRatio_ne_nan b64 s A' B' e'
  have k1 : zmag b64 (roundRatio b64 s A' B' e') * 2 ^ (b64.qmin - e0).toNat * B < inUnits A e e0 := Nat.lt_of_not_le fun q => Nat.not_le.mpr hlt (zmag_roundRatio_le good_b64 hB fV nV h0' he q)
  have k2 : inUnits A' e' e0 < zmag b64 (roundRatio b64 s A B e) * 2 ^ (b64.qmin - e0).toNat * B' := Nat.lt_of_not_le fun q => Nat.not_le.mpr hlt (zmag_roundRatio_ge good_b64 hB' fW h0' he' q)
  rcases roundRatio_cases b64 s A' B' e' with ⟨cv, qv, eV⟩ | eV
  · rcases roundRatio_cases b64 s A B e with ⟨cw, qw, eW⟩ | eW
    · have fv := eV ▸ fV
      have fw := eW ▸ fW
      have n1 := roundRatio_nearest good_b64 hB eW fv.1 fv.2.1 h0' he
      have n2 := roundRatio_nearest good_b64 hB' eV fw.1 fw.2.1 h0' he'
      unfold distance at n1 n2
      rw [units_fin fv h0', units_fin fw h0'] at n1 n2
      rw [eV] at k1
      rw [eW] at k2
      generalize zmag b64 (.fin s cv qv) * 2 ^ (b64.qmin - e0).toNat = x at *
      generalize zmag b64 (.fin s cw qw) * 2 ^ (b64.qmin - e0).toNat = y at *
      generalize hI : inUnits A e e0 = a at *
      generalize hI' : inUnits A' e' e0 = a' at *
      have k3 : x * B' < a' := by
        refine Nat.lt_of_mul_lt_mul_right (a := B) ?_
        calc x * B' * B = x * B * B' := by ac_rfl
          _ < a * B' := Nat.mul_lt_mul_of_pos_right k1 hB'
          _ ≤ a' * B := h
      have k4 : a < y * B := by
        refine Nat.lt_of_mul_lt_mul_right (a := B') ?_
        calc a * B' ≤ a' * B := h
          _ < y * B' * B := Nat.mul_lt_mul_of_pos_right k2 hB
          _ = y * B * B' := by ac_rfl
      rw [← Int.natCast_mul, ← Int.natCast_mul] at n1 n2
      have d1 := own_dist k1 k4 n1
      have d2 := own_dist' k3 k2 n2
      have g1 : (x + y) * B * B' ≤ 2 * (a * B') := by
        rw [← Nat.mul_assoc]
        refine Nat.mul_le_mul_right _ ?_
        rw [Nat.add_mul]; exact d1
      have g2 : 2 * (a' * B) ≤ (x + y) * B * B' := by
        rw [← Nat.mul_assoc, show (x + y) * B * B' = (x + y) * B' * B by ac_rfl]
        refine Nat.mul_le_mul_right _ ?_
        rw [Nat.add_mul]; exact d2
      have heq : a * B' = a' * B := by omega
      rw [← hI, ← hI'] at heq
      unfold inUnits at heq
      have hP : A * B' * 2 ^ (e - e0).toNat = A' * B * 2 ^ (e' - e0).toNat := by
        calc A * B' * 2 ^ (e - e0).toNat = A * 2 ^ (e - e0).toNat * B' := by ac_rfl
          _ = A' * 2 ^ (e' - e0).toNat * B := heq
          _ = A' * B * 2 ^ (e' - e0).toNat := by ac_rfl
      have hC : A * B' * 2 ^ (e - e').toNat = A' * B * 2 ^ (e' - e).toNat := own_pow_shift hP (by omega)
      rw [roundRatio_congr hB hB' hC] at hlt
      exact Nat.lt_irrefl _ hlt
    · rw [roundRatio_inf good_b64 hB h0 he] at eW
      have eV2 : roundRatio b64 s A' B' e' = .inf s := by
        rw [roundRatio_inf good_b64 hB' h0 he']
        refine Nat.le_of_mul_le_mul_right (c := B) ?_ hB
        calc (2 ^ (b64.p + 1) - 1) * 2 ^ (b64.qmax - 1 - e0).toNat * B' * B = (2 ^ (b64.p + 1) - 1) * 2 ^ (b64.qmax - 1 - e0).toNat * B * B' := by ac_rfl
          _ ≤ inUnits A e e0 * B' := Nat.mul_le_mul_right _ eW
          _ ≤ inUnits A' e' e0 * B := h
      rw [eV] at eV2
      exact Datum.noConfusion eV2
  · have := zmag_le_top good_b64 fW
    rw [eV] at hlt
    exact Nat.lt_irrefl _ (Nat.lt_of_lt_of_le hlt this)
theorem own_zval_nonneg {d : Datum} (h : sgn d = false) : zval b64 d = (zmag b64 d : Int) := by unfold zval; rw [h]; rfl
/-- whole numbers that aren't negative, converted -/
theorem own_l2d_rr {a : Int64} (h : 0 ≤ a.toInt) : own_z (l2d a) = (zmag b64 (roundRatio b64 false a.toInt.natAbs 1 0) : Int) := by
  show zval b64 (val64 (l2d a)) = _
  rw [val64_l2d]
  unfold ofInt
  rw [show decide (a.toInt < 0) = false from decide_eq_false (by omega)]
  exact own_zval_nonneg (sgn_roundRatio _ _ _ _ _)
theorem own_l2d_mono {a b : Int64} (h0 : 0 ≤ a.toInt) (h : a.toInt ≤ b.toInt) : own_z (l2d a) ≤ own_z (l2d b) := by
  rw [own_l2d_rr h0, own_l2d_rr (Int.le_trans h0 h)]
  refine Int.ofNat_le.mpr (own_rr_mono (e0 := -2000) (by decide) (by decide) (by rw [qmin_b64]; decide) (by decide) (by decide) ?_)
  unfold inUnits
  rw [Nat.mul_one, Nat.mul_one]
  exact Nat.mul_le_mul_right _ (by omega)
/-- a sum of two finite doubles that isn't negative -/
theorem own_sum_rr {x y : UInt64} (hx : DFin x) (hy : DFin y) (h : 0 ≤ own_z x + own_z y) : ∃ (n : Nat) (e : Int), b64.qmin ≤ e ∧ ((inUnits n e b64.qmin : Nat) : Int) = own_z x + own_z y ∧ own_z (dadd x y) = (zmag b64 (roundRatio b64 false n 1 e) : Int) ∧ val64 (dadd x y) ≠ .nan := by
  obtain ⟨s, c, q, e1⟩ := hx
  obtain ⟨t, d, r, e2⟩ := hy
  have f1 : Jvm.FP.Core.fits b64 (.fin s c q) := e1 ▸ val64_fits x
  have f2 : Jvm.FP.Core.fits b64 (.fin t d r) := e2 ▸ val64_fits y
  obtain ⟨sg, n, e, h1, h2, h3⟩ := sum_units f1 f2
  have u1 : own_z x = zval b64 (.fin s c q) := by unfold own_z; rw [e1]
  have u2 : own_z y = zval b64 (.fin t d r) := by unfold own_z; rw [e2]
  rw [show zval b64 (.fin s c q) + zval b64 (.fin t d r) = own_z x + own_z y by rw [u1, u2]] at h3
  have v : val64 (dadd x y) = roundRatio b64 sg n 1 e := by rw [val64_dadd, e1, e2, h1]; rfl
  refine ⟨n, e, h2, ?_, ?_, by rw [v]; exact roundRatio_ne_nan _ _ _ _ _⟩
  · rw [← h3, own_nonneg (by rw [h3]; exact h)]
  · show zval b64 (val64 (dadd x y)) = _
    rw [v, own_zmag_sign false sg]
    cases sg
    · exact own_zval_nonneg (sgn_roundRatio _ _ _ _ _)
    · have z : n * 2 ^ (e - b64.qmin).toNat = 0 := by
        have k : 0 ≤ signed true (inUnits n e b64.qmin) := by rw [h3]; exact h
        simp only [signed, if_true, inUnits] at k
        omega
      have n0 : n = 0 := by
        rcases Nat.mul_eq_zero.mp z with k | k
        · exact k
        · have := Nat.two_pow_pos (e - b64.qmin).toNat; omega
      have k := own_rr0 true 1 e
      rw [n0, k]
      unfold zval at k
      rw [signed_eq_zero] at k
      rw [k]; rfl
theorem own_dadd_mono {x y x' y' : UInt64} (hx : DFin x) (hy : DFin y) (hx' : DFin x') (hy' : DFin y') (h0 : 0 ≤ own_z x + own_z y) (h : own_z x + own_z y ≤ own_z x' + own_z y') : own_z (dadd x y) ≤ own_z (dadd x' y') := by
  obtain ⟨n, e, h1, h2, h3, -⟩ := own_sum_rr hx hy h0
  obtain ⟨n', e', h1', h2', h3', -⟩ := own_sum_rr hx' hy' (Int.le_trans h0 h)
  rw [h3, h3']
  have hq := qmin_b64
  refine Int.ofNat_le.mpr (own_rr_mono (e0 := -2000) (by decide) (by decide) (by omega) (by omega) (by omega) ?_)
  rw [inUnits_move n (r := b64.qmin) (by omega) h1, inUnits_move n' (r := b64.qmin) (by omega) h1', Nat.mul_one, Nat.mul_one]
  refine Nat.mul_le_mul_right _ (Int.ofNat_le.mp ?_)
  rw [h2, h2']; exact h
theorem own_dadd_le {x y w : UInt64} (hx : DFin x) (hy : DFin y) (hw : val64 w ≠ .nan) (h : own_z x + own_z y ≤ own_z w) : own_z (dadd x y) ≤ own_z w := by
  show zval b64 (val64 (dadd x y)) ≤ _
  rw [val64_dadd]
  exact sum_le good_b64 hx hy (val64_fits x) (val64_fits y) (val64_fits w) hw h
theorem own_dadd_ge {x y w : UInt64} (hx : DFin x) (hy : DFin y) (hw : val64 w ≠ .nan) (h : own_z w ≤ own_z x + own_z y) : own_z w ≤ own_z (dadd x y) := by
  show _ ≤ zval b64 (val64 (dadd x y))
  rw [val64_dadd]
  exact sum_ge good_b64 hx hy (val64_fits x) (val64_fits y) (val64_fits w) hw h
theorem own_fin_le {x w : UInt64} (hn : val64 x ≠ .nan) (h0 : 0 ≤ own_z x) (hw : DFin w) (h : own_z x ≤ own_z w) : DFin x := by
  cases hv : val64 x with
  | nan => exact absurd hv hn
  | inf s =>
    exfalso
    obtain ⟨t, c, q, ew⟩ := hw
    have fw : Jvm.FP.Core.fits b64 (.fin t c q) := ew ▸ val64_fits w
    have l := zmag_lt_top good_b64 fw
    have ex : own_z x = signed s (b64.tails * 2 ^ (b64.exps - 2)) := by unfold own_z; rw [hv]; rfl
    have e2 : own_z w = signed t (zmag b64 (.fin t c q)) := by unfold own_z; rw [ew]; rfl
    rw [ex] at h0 h
    rw [own_nonneg h0] at h
    have p : 0 ≤ own_z w := Int.le_trans (Int.natCast_nonneg _) h
    rw [e2] at p h
    rw [own_nonneg p] at h
    exact absurd (Int.ofNat_le.mp h) (Nat.not_le.mpr l)
  | fin s c q => exact ⟨s, c, q, hv⟩
/-- a greater divisor, no greater quotient -/
theorem own_div_anti {x y y' : UInt64} (hx : DFin x) (hy : DFin y) (hy' : DFin y') (px : 0 ≤ own_z x) (py : 0 < own_z y) (h : own_z y ≤ own_z y') : own_z (ddiv x y') ≤ own_z (ddiv x y) := by
  obtain ⟨c, d, q, r, q1, q2, q3, q4, d0, zx, zy, -, s, zq⟩ := own_div_mag hx hy px py
  obtain ⟨c', d', q', r', q1', q2', q3', q4', d0', zx', zy', -, s', zq'⟩ := own_div_mag hx hy' px (Int.lt_of_lt_of_le py h)
  have hq := qmin_b64
  have hm : b64.qmax = 971 := by decide
  rw [zq, zq', own_zmag_sign s' s]
  refine Int.ofNat_le.mpr (own_rr_mono (e0 := -6000) d0' d0 (by omega) (by omega) (by omega) ?_)
  have ec : c' * 2 ^ (q' - b64.qmin).toNat = c * 2 ^ (q - b64.qmin).toNat := Int.natCast_inj.mp (zx'.symm.trans zx)
  have ed : d * 2 ^ (r - b64.qmin).toNat ≤ d' * 2 ^ (r' - b64.qmin).toNat := by rw [zy, zy'] at h; exact Int.ofNat_le.mp h
  unfold inUnits
  have hN : c' * 2 ^ (q' - b64.qmin).toNat * (d * 2 ^ (r - b64.qmin).toNat) ≤ c * 2 ^ (q - b64.qmin).toNat * (d' * 2 ^ (r' - b64.qmin).toNat) := by
    rw [ec]; exact Nat.mul_le_mul_left _ ed
  have hP : c' * d * 2 ^ ((q' - b64.qmin).toNat + (r - b64.qmin).toNat) ≤ c * d' * 2 ^ ((q - b64.qmin).toNat + (r' - b64.qmin).toNat) := by
    rw [Nat.pow_add, Nat.pow_add]
    calc c' * d * (2 ^ (q' - b64.qmin).toNat * 2 ^ (r - b64.qmin).toNat) = c' * 2 ^ (q' - b64.qmin).toNat * (d * 2 ^ (r - b64.qmin).toNat) := by ac_rfl
      _ ≤ c * 2 ^ (q - b64.qmin).toNat * (d' * 2 ^ (r' - b64.qmin).toNat) := hN
      _ = c * d' * (2 ^ (q - b64.qmin).toNat * 2 ^ (r' - b64.qmin).toNat) := by ac_rfl
  have hC : c' * d * 2 ^ (q' - r' - (-6000)).toNat ≤ c * d' * 2 ^ (q - r - (-6000)).toNat := own_pow_shift_le hP (by omega)
  calc c' * 2 ^ (q' - r' - (-6000)).toNat * d = c' * d * 2 ^ (q' - r' - (-6000)).toNat := by ac_rfl
    _ ≤ c * d' * 2 ^ (q - r - (-6000)).toNat := hC
    _ = c * 2 ^ (q - r - (-6000)).toNat * d' := by ac_rfl
end Jvm.OwnFl
namespace Jvm.OwnFl
open Jvm.FP.Core
/-- a finite sum is a nearest double -/
theorem own_near {x y : UInt64} (hx : DFin x) (hy : DFin y) (hf : DFin (dadd x y)) {w : Int} (hw : own_rep w) : (own_z x + own_z y - own_z (dadd x y)).natAbs ≤ (own_z x + own_z y - w).natAbs := by
  obtain ⟨s, c, q, e1⟩ := hx
  obtain ⟨t, d, r, e2⟩ := hy
  have f1 : Jvm.FP.Core.fits b64 (.fin s c q) := e1 ▸ val64_fits x
  have f2 : Jvm.FP.Core.fits b64 (.fin t d r) := e2 ▸ val64_fits y
  obtain ⟨sg, n, e, h1, h2, h3⟩ := sum_units f1 f2
  have u1 : own_z x = zval b64 (.fin s c q) := by unfold own_z; rw [e1]
  have u2 : own_z y = zval b64 (.fin t d r) := by unfold own_z; rw [e2]
  rw [show zval b64 (.fin s c q) + zval b64 (.fin t d r) = own_z x + own_z y by rw [u1, u2]] at h3
  have v : val64 (dadd x y) = roundRatio b64 sg n 1 e := by rw [val64_dadd, e1, e2, h1]; rfl
  obtain ⟨t', c', q', hv⟩ := hf
  have hr : roundRatio b64 sg n 1 e = .fin t' c' q' := v.symm.trans hv
  have st : t' = sg := by
    have k := sgn_roundRatio b64 sg n 1 e
    rw [hr] at k
    exact k
  obtain ⟨cw, j, rfl, hcw, hj⟩ := hw
  have near := roundRatio_nearest good_b64 (c' := cw.natAbs) (q' := b64.qmin + (j : Int)) (e0 := b64.qmin) (by decide) hr hcw (by omega) (Int.le_refl _) h2
  have H : own_z (dadd x y) = signed sg (c' * 2 ^ (q' - b64.qmin).toNat) := by rw [← st]; exact own_zv hv
  unfold distance at near
  rw [show inUnits cw.natAbs (b64.qmin + (j : Int)) b64.qmin = cw.natAbs * 2 ^ j by unfold inUnits; rw [show (b64.qmin + (j : Int) - b64.qmin).toNat = j by omega]] at near
  rw [← h3, H]
  have hM : inUnits c' q' b64.qmin = c' * 2 ^ (q' - b64.qmin).toNat := rfl
  rw [hM] at near
  have hW : (cw * ((2 ^ j : Nat) : Int)).natAbs = cw.natAbs * 2 ^ j := by rw [Int.natAbs_mul, Int.natAbs_natCast]
  generalize cw * ((2 ^ j : Nat) : Int) = W at *
  rw [← hW] at near
  generalize inUnits n e b64.qmin = N at *
  generalize c' * 2 ^ (q' - b64.qmin).toNat = M at *
  cases sg
  · simp only [signed, Bool.false_eq_true, if_false] at *
    omega
  · simp only [signed, if_true] at *
    omega
/-- whole numbers of units 2^j -/
theorem own_rep_of_le {z b : Int} {j : Nat} (hz : ∃ c : Int, z = c * ((2 ^ j : Nat) : Int)) (hb : ∃ c : Int, b = c * ((2 ^ j : Nat) : Int) ∧ c.natAbs < 2 ^ 53) (hj : j ≤ 2045) (h : z.natAbs ≤ b.natAbs) : own_rep z := by
  obtain ⟨c, rfl⟩ := hz
  obtain ⟨c', rfl, hc⟩ := hb
  refine ⟨c, j, rfl, Nat.lt_of_le_of_lt ?_ hc, hj⟩
  rw [Int.natAbs_mul, Int.natAbs_mul, Int.natAbs_natCast] at h
  exact Nat.le_of_mul_le_mul_right h (Nat.two_pow_pos j)
theorem own_rep_fin {x : UInt64} (h : DFin x) : own_rep (own_z x) := by
  obtain ⟨s, c, q, e⟩ := h
  have f : Jvm.FP.Core.fits b64 (.fin s c q) := e ▸ val64_fits x
  have hm : b64.qmax = 971 := by decide
  have hq := qmin_b64
  have q1 := f.2.1
  have q2 := f.2.2.1
  refine ⟨signed s c, (q - b64.qmin).toNat, ?_, ?_, by omega⟩
  · rw [own_zv e, signed_mul]
  · rw [natAbs_signed]; exact f.1
/-- a double of at least 2^53 units of 2^j is a whole number of them -/
theorem own_coarse {z : Int} {j : Nat} (h : own_rep z) (hz : 2 ^ 53 * 2 ^ j ≤ z.natAbs) : ∃ c : Int, z = c * ((2 ^ j : Nat) : Int) := by
  obtain ⟨c, i, rfl, hc, hi⟩ := h
  rw [Int.natAbs_mul, Int.natAbs_natCast] at hz
  have hij : j ≤ i := by
    refine Nat.not_lt.mp fun k => ?_
    have h1 : c.natAbs * 2 ^ i < 2 ^ 53 * 2 ^ i := Nat.mul_lt_mul_of_pos_right hc (Nat.two_pow_pos i)
    have h2 : 2 ^ 53 * 2 ^ i ≤ 2 ^ 53 * 2 ^ j := Nat.mul_le_mul_left _ (Nat.pow_le_pow_right (by decide) (Nat.le_of_lt k))
    exact Nat.lt_irrefl _ (Nat.lt_of_le_of_lt hz (Nat.lt_of_lt_of_le h1 h2))
  refine ⟨c * ((2 ^ (i - j) : Nat) : Int), ?_⟩
  rw [Int.mul_assoc, ← Int.natCast_mul, ← Nat.pow_add, Nat.sub_add_cancel hij]
/-- a sum of whole numbers of 2^j is one -/
theorem own_sum_mult {x y : UInt64} (hx : DFin x) (hy : DFin y) (hf : DFin (dadd x y)) {j : Nat} (hj : j ≤ 2045) (h : ∃ c : Int, own_z x + own_z y = c * ((2 ^ j : Nat) : Int)) : ∃ c : Int, own_z (dadd x y) = c * ((2 ^ j : Nat) : Int) := by
  obtain ⟨c, hc⟩ := h
  by_cases k : c.natAbs < 2 ^ 53
  · exact ⟨c, (own_add hx hy ⟨c, j, hc, k, hj⟩).2.trans hc⟩
  · refine own_coarse (own_rep_fin hf) ?_
    have hS : 2 ^ 53 * 2 ^ j ≤ (own_z x + own_z y).natAbs := by
      rw [hc, Int.natAbs_mul, Int.natAbs_natCast]
      exact Nat.mul_le_mul_right _ (Nat.not_lt.mp k)
    by_cases hj2 : j ≤ 2044
    · have p1 : 2 ^ 53 * 2 ^ j = 2 ^ 52 * 2 ^ (j + 1) := by
        rw [← Nat.pow_add, ← Nat.pow_add]; congr 1; omega
      have r1 : own_rep (((2 ^ 53 * 2 ^ j : Nat)) : Int) := ⟨((2 ^ 52 : Nat) : Int), j + 1, by rw [p1, Int.natCast_mul], by decide, by omega⟩
      have r2 : own_rep (-(((2 ^ 53 * 2 ^ j : Nat)) : Int)) := ⟨-((2 ^ 52 : Nat) : Int), j + 1, by rw [p1, Int.natCast_mul, Int.neg_mul], by decide, by omega⟩
      generalize 2 ^ 53 * 2 ^ j = B at *
      have n1 := own_near hx hy hf r1
      have n2 := own_near hx hy hf r2
      generalize own_z x + own_z y = S at *
      generalize own_z (dadd x y) = H at *
      omega
    · exfalso
      have e : j = 2045 := by omega
      subst e
      have v1 : val64 (9218868437227405312 : UInt64) = .inf false := by decide +kernel
      have v2 : val64 (18442240474082181120 : UInt64) = .inf true := by decide +kernel
      have tt : b64.tails * 2 ^ (b64.exps - 2) = 2 ^ 2098 := by
        rw [tails_b64, show b64.exps - 2 = 2046 by decide]
        exact (Nat.pow_add 2 52 2046).symm
      have z1 : own_z (9218868437227405312 : UInt64) = ((2 ^ 2098 : Nat) : Int) := by
        unfold own_z; rw [v1, ← tt]; rfl
      have z2 : own_z (18442240474082181120 : UInt64) = -((2 ^ 2098 : Nat) : Int) := by
        unfold own_z; rw [v2, ← tt]; rfl
      have a1 := own_dadd_ge hx hy (w := (9218868437227405312 : UInt64)) (by rw [v1]; exact fun q => Datum.noConfusion q)
      have a2 := own_dadd_le hx hy (w := (18442240474082181120 : UInt64)) (by rw [v2]; exact fun q => Datum.noConfusion q)
      have top := own_top (own_rep_fin hf)
      rw [z1] at a1
      rw [z2] at a2
      have hS' : 2 ^ 2098 ≤ (own_z x + own_z y).natAbs := Nat.le_trans (Nat.le_of_eq (Nat.pow_add 2 53 2045)) hS
      generalize (2 : Nat) ^ 2098 = B at *
      generalize own_z x + own_z y = S at *
      generalize own_z (dadd x y) = H at *
      clear hS tt z1 z2 v1 v2 hc
      omega
/-- the error of a sum is a double -/
theorem own_err {x y : UInt64} (hx : DFin x) (hy : DFin y) (hf : DFin (dadd x y)) : own_rep (own_z x + own_z y - own_z (dadd x y)) := by
  obtain ⟨cx, i, hcx, hcx1, hi⟩ := own_rep_fin hx
  obtain ⟨cy, k, hcy, hcy1, hk⟩ := own_rep_fin hy
  have key : ∀ {u v : Int} {cu cv : Int} {a b : Nat}, u = cu * ((2 ^ a : Nat) : Int) → v = cv * ((2 ^ b : Nat) : Int) → cv.natAbs < 2 ^ 53 → b ≤ 2045 → b ≤ a → u + v = own_z x + own_z y → own_rep u → own_rep (own_z x + own_z y - own_z (dadd x y)) := by
    intro u v cu cv a b hu hv hv1 hb hab hs hr
    have hm : ∃ c : Int, own_z x + own_z y = c * ((2 ^ b : Nat) : Int) := ⟨cu * ((2 ^ (a - b) : Nat) : Int) + cv, by rw [← hs, hu, hv, Int.add_mul, Int.mul_assoc, ← Int.natCast_mul, ← Nat.pow_add, Nat.sub_add_cancel hab]⟩
    obtain ⟨cs, hcs⟩ := hm
    obtain ⟨ch, hch⟩ := own_sum_mult hx hy hf hb ⟨cs, hcs⟩
    refine own_rep_of_le (j := b) (b := v) ⟨cs - ch, by rw [hcs, hch, Int.sub_mul]⟩ ⟨cv, hv, hv1⟩ hb ?_
    have n := own_near hx hy hf hr
    rw [← hs, show u + v - u = v by omega] at n
    rw [← hs]
    exact n
  rcases Nat.le_total k i with h | h
  · exact key hcx hcy hcy1 hk h rfl (own_rep_fin hx)
  · exact key hcy hcx hcx1 hi h (Int.add_comm _ _) (own_rep_fin hy)
end Jvm.OwnFl
namespace Jvm.OwnFl
open Jvm.FP.Core
/-- a double has a form whose whole number is at least 2^52, or whose unit is the least -/
theorem own_norm {z : Int} (h : own_rep z) : ∃ (c : Int) (j : Nat), z = c * ((2 ^ j : Nat) : Int) ∧ c.natAbs < 2 ^ 53 ∧ j ≤ 2045 ∧ (2 ^ 52 ≤ c.natAbs ∨ j = 0) := by
  obtain ⟨c, j, hz, hc, hj⟩ := h
  induction j generalizing c with
  | zero => exact ⟨c, 0, hz, hc, hj, Or.inr rfl⟩
  | succ k ih =>
    by_cases hb : 2 ^ 52 ≤ c.natAbs
    · exact ⟨c, k + 1, hz, hc, hj, Or.inl hb⟩
    · refine ih (c * 2) ?_ ?_ (by omega)
      · rw [hz, Nat.pow_succ, Int.natCast_mul]
        show _ = c * 2 * _
        rw [Int.mul_assoc, Int.mul_comm 2]; rfl
      · rw [Int.natAbs_mul]; show c.natAbs * 2 < _; omega
/-- what is at least so great as x is a whole number of x's unit -/
theorem own_unit {z w : Int} {j : Nat} {c : Int} (hz : z = c * ((2 ^ j : Nat) : Int)) (hc : 2 ^ 52 ≤ c.natAbs ∨ j = 0) (hw : own_rep w) (h : z.natAbs ≤ w.natAbs) : ∃ d : Int, w = d * ((2 ^ j : Nat) : Int) := by
  rcases hc with hc | hc
  · cases j with
    | zero => exact ⟨w, by rw [Nat.pow_zero]; exact (Int.mul_one w).symm⟩
    | succ k =>
      obtain ⟨d, i, rfl, hd, hi⟩ := hw
      rw [hz, Int.natAbs_mul, Int.natAbs_mul, Int.natAbs_natCast, Int.natAbs_natCast] at h
      have hij : k + 1 ≤ i := by
        refine Nat.not_lt.mp fun q => ?_
        have h1 : d.natAbs * 2 ^ i < 2 ^ 53 * 2 ^ i := Nat.mul_lt_mul_of_pos_right hd (Nat.two_pow_pos i)
        have h2 : 2 ^ 53 * 2 ^ i ≤ 2 ^ 53 * 2 ^ k := Nat.mul_le_mul_left _ (Nat.pow_le_pow_right (by decide) (by omega))
        have h3 : 2 ^ 52 * 2 ^ (k + 1) ≤ c.natAbs * 2 ^ (k + 1) := Nat.mul_le_mul_right _ hc
        have h4 : 2 ^ 53 * 2 ^ k = 2 ^ 52 * 2 ^ (k + 1) := by rw [← Nat.pow_add, ← Nat.pow_add]; congr 1; omega
        rw [h4] at h2
        exact Nat.lt_irrefl _ (Nat.lt_of_lt_of_le h1 (Nat.le_trans h2 (Nat.le_trans h3 h)))
      refine ⟨d * ((2 ^ (i - (k + 1)) : Nat) : Int), ?_⟩
      rw [Int.mul_assoc, ← Int.natCast_mul, ← Nat.pow_add, Nat.sub_add_cancel hij]
  · subst hc; exact ⟨w, by rw [Nat.pow_zero]; exact (Int.mul_one w).symm⟩
/-- the difference of two doubles of one sign, neither more than twice the other, is a double -/
theorem own_sterbenz {a b : Int} (ha : own_rep a) (hb : own_rep b) (h0 : 0 ≤ a) (h1 : a ≤ b) (h2 : b ≤ 2 * a) : own_rep (b - a) := by
  by_cases z : a = 0
  · rw [show b - a = a by omega]; exact ha
  · obtain ⟨c, j, hz, hc, hj, hn⟩ := own_norm ha
    obtain ⟨d, hd⟩ := own_unit hz hn hb (by omega)
    refine own_rep_of_le (j := j) (b := a) ⟨d - c, by rw [hd, hz, Int.sub_mul]⟩ ⟨c, hz, hc⟩ hj (by omega)
theorem own_rep_neg {z : Int} (h : own_rep z) : own_rep (-z) := by
  obtain ⟨c, j, rfl, hc, hj⟩ := h
  exact ⟨-c, j, (Int.neg_mul _ _).symm, by rw [Int.natAbs_neg]; exact hc, hj⟩
theorem own_fastP {a b H : Int} (ha : own_rep a) (hb : own_rep b) (hH : own_rep H) (h2 : own_rep (2 * a)) (h0 : 0 ≤ a) (h : b.natAbs ≤ a.natAbs) (near : ∀ w, own_rep w → (a + b - H).natAbs ≤ (a + b - w).natAbs) : own_rep (H - a) := by
  have exact_ : own_rep (a + b) → own_rep (H - a) := fun r => by
    have n := near _ r
    rw [show H - a = b by omega]; exact hb
  have na := near a ha
  by_cases hs : 0 ≤ b
  · have n2 := near (2 * a) h2
    exact own_sterbenz ha hH h0 (by omega) (by omega)
  · obtain ⟨c, j, hz, hc, hj, hn⟩ := own_norm ha
    cases j with
    | zero =>
      refine exact_ ⟨a + b, 0, by rw [Nat.pow_zero]; exact (Int.mul_one _).symm, ?_, by omega⟩
      rw [Nat.pow_zero] at hz
      have hz' : a = c := hz.trans (Int.mul_one c)
      omega
    | succ k =>
      have r : own_rep (c * ((2 ^ k : Nat) : Int)) := ⟨c, k, rfl, hc, by omega⟩
      have e : a = 2 * (c * ((2 ^ k : Nat) : Int)) := by
        rw [hz, Nat.pow_succ, Int.natCast_mul]
        show c * (_ * 2) = _
        rw [← Int.mul_assoc, Int.mul_comm]
      generalize c * ((2 ^ k : Nat) : Int) = a' at *
      by_cases hq : a' ≤ -b
      · refine exact_ ?_
        have k1 := own_sterbenz (own_rep_neg hb) ha (by omega) (by omega) (by omega)
        rw [show a - -b = a + b by omega] at k1
        exact k1
      · have n1 := near a' r
        have k1 := own_rep_neg (own_sterbenz hH ha (by omega) (by omega) (by omega))
        rw [show -(a - H) = H - a by omega] at k1
        exact k1
/-- what the greater operand leaves of the rounded sum is a double -/
theorem own_fast {x y : UInt64} (hx : DFin x) (hy : DFin y) (hf : DFin (dadd x y)) (h2 : own_rep (2 * own_z x)) (h : (own_z y).natAbs ≤ (own_z x).natAbs) : own_rep (own_z (dadd x y) - own_z x) := by
  have near := fun w (hw : own_rep w) => own_near hx hy hf hw
  rcases Int.le_total 0 (own_z x) with h0 | h0
  · exact own_fastP (own_rep_fin hx) (own_rep_fin hy) (own_rep_fin hf) h2 h0 h near
  · have k := own_fastP (a := -own_z x) (b := -own_z y) (H := -own_z (dadd x y)) (own_rep_neg (own_rep_fin hx)) (own_rep_neg (own_rep_fin hy)) (own_rep_neg (own_rep_fin hf)) (by rw [Int.mul_neg]; exact own_rep_neg h2) (by omega) (by omega) (fun w hw => by
      have n := near (-w) (own_rep_neg hw)
      omega)
    have k' := own_rep_neg k
    rw [show -(-own_z (dadd x y) - -own_z x) = own_z (dadd x y) - own_z x by omega] at k'
    exact k'
/-- the two differences of a sum of two are exact: low is the error -/
theorem own_two {x y : UInt64} (hx : DFin x) (hy : DFin y) (hf : DFin (dadd x y)) (h2 : own_rep (2 * own_z x)) (h : (own_z y).natAbs ≤ (own_z x).natAbs) :
    (DFin (dsub (dadd x y) x) ∧ own_z (dsub (dadd x y) x) = own_z (dadd x y) - own_z x) ∧ DFin (dsub y (dsub (dadd x y) x)) ∧ own_z (dsub y (dsub (dadd x y) x)) = own_z x + own_z y - own_z (dadd x y) := by
  have k := own_sub hf hx (own_fast hx hy hf h2 h)
  have e : own_z y - own_z (dsub (dadd x y) x) = own_z x + own_z y - own_z (dadd x y) := by rw [k.2]; omega
  have k2 := own_sub hy k.1 (by rw [e]; exact own_err hx hy hf)
  exact ⟨k, k2.1, k2.2.trans e⟩
end Jvm.OwnFl
namespace Jvm.OwnFl
open Jvm.FP.Core
/-- a whole number of units, rounded to a double -/
def own_rn (T : Int) : Int := zval b64 (round b64 (.fin (decide (T < 0)) T.natAbs b64.qmin))
theorem own_rn_of {sg : Bool} {n : Nat} {e S : Int} (he : b64.qmin ≤ e) (h : signed sg (inUnits n e b64.qmin) = S) : zval b64 (roundRatio b64 sg n 1 e) = own_rn S := by
  show _ = zval b64 (roundRatio b64 (decide (S < 0)) S.natAbs 1 b64.qmin)
  by_cases hS : S = 0
  · have hn : n = 0 := own_c0 (s := sg) (k := (e - b64.qmin).toNat) (h.trans hS)
    rw [show zval b64 (roundRatio b64 sg n 1 e) = 0 by rw [hn]; exact own_rr0 _ _ _, hS]
    exact (own_rr0 _ _ _).symm
  · have hsg : sg = decide (S < 0) ∧ inUnits n e b64.qmin = S.natAbs := by
      generalize inUnits n e b64.qmin = N at h
      cases sg
      · simp only [signed, Bool.false_eq_true, if_false] at h
        exact ⟨(decide_eq_false (by omega)).symm, by omega⟩
      · simp only [signed, if_true] at h
        exact ⟨(decide_eq_true (by omega)).symm, by omega⟩
    have hc : roundRatio b64 sg n 1 e = roundRatio b64 sg (inUnits n e b64.qmin) 1 b64.qmin := by
      refine roundRatio_congr (by decide) (by decide) ?_
      unfold inUnits
      rw [show (b64.qmin - e).toNat = 0 by omega, Nat.pow_zero, Nat.mul_one, Nat.mul_one, Nat.mul_one]
    rw [hc, hsg.2, hsg.1]
theorem own_dadd_rn {x y : UInt64} (hx : DFin x) (hy : DFin y) : own_z (dadd x y) = own_rn (own_z x + own_z y) := by
  obtain ⟨s, c, q, e1⟩ := hx
  obtain ⟨t, d, r, e2⟩ := hy
  have f1 : Jvm.FP.Core.fits b64 (.fin s c q) := e1 ▸ val64_fits x
  have f2 : Jvm.FP.Core.fits b64 (.fin t d r) := e2 ▸ val64_fits y
  obtain ⟨sg, n, e, h1, h2, h3⟩ := sum_units f1 f2
  have u1 : own_z x = zval b64 (.fin s c q) := by unfold own_z; rw [e1]
  have u2 : own_z y = zval b64 (.fin t d r) := by unfold own_z; rw [e2]
  rw [show zval b64 (.fin s c q) + zval b64 (.fin t d r) = own_z x + own_z y by rw [u1, u2]] at h3
  have v : val64 (dadd x y) = roundRatio b64 sg n 1 e := by rw [val64_dadd, e1, e2, h1]; rfl
  show zval b64 (val64 (dadd x y)) = _
  rw [v]
  exact own_rn_of h2 h3
theorem own_dsub_rn {x y : UInt64} (hx : DFin x) (hy : DFin y) : own_z (dsub x y) = own_rn (own_z x - own_z y) := by
  rw [dsub_eq, own_dadd_rn hx (own_neg hy).1, (own_neg hy).2, ← Int.sub_eq_add_neg]
theorem own_int_units (n : Int) (e : Nat) : signed (decide (n < 0)) (inUnits n.natAbs (e : Int) b64.qmin) = n * ((2 ^ (1074 + e) : Nat) : Int) := by
  unfold inUnits
  rw [show ((e : Int) - b64.qmin).toNat = 1074 + e by rw [qmin_b64]; omega, signed_mul, own_signed]
theorem own_l2d_rn (a : Int64) : own_z (l2d a) = own_rn (a.toInt * (own_U : Int)) := by
  have h := own_int_units a.toInt 0
  rw [Nat.add_zero, ← own_U_eq] at h
  have k := own_rn_of (by rw [qmin_b64]; decide) h
  show zval b64 (val64 (l2d a)) = _
  rw [val64_l2d]
  exact k
theorem own_rn_le {T w : Int} (hw : own_rep w) (h : T ≤ w) : own_rn T ≤ w := by
  obtain ⟨s, c, q, fV, zV⟩ := own_datum hw
  show zval b64 (round b64 (.fin (decide (T < 0)) T.natAbs b64.qmin)) ≤ w
  rw [← zV]
  refine zval_round_le good_b64 (s := decide (T < 0)) (c := T.natAbs) (q := b64.qmin) (e0 := b64.qmin) fV (fun q => Datum.noConfusion q) (Int.le_refl _) (Int.le_refl _) ?_
  unfold inUnits
  rw [Int.sub_self, show ((0 : Int)).toNat = 0 from rfl, Nat.pow_zero, Nat.mul_one, own_signed, zV]
  show T ≤ w * (1 : Int)
  rw [Int.mul_one]; exact h
theorem own_rn_ge {T w : Int} (hw : own_rep w) (h : w ≤ T) : w ≤ own_rn T := by
  obtain ⟨s, c, q, fV, zV⟩ := own_datum hw
  show w ≤ zval b64 (round b64 (.fin (decide (T < 0)) T.natAbs b64.qmin))
  rw [← zV]
  refine zval_round_ge good_b64 (s := decide (T < 0)) (c := T.natAbs) (q := b64.qmin) (e0 := b64.qmin) fV (fun q => Datum.noConfusion q) (Int.le_refl _) (Int.le_refl _) ?_
  unfold inUnits
  rw [Int.sub_self, show ((0 : Int)).toNat = 0 from rfl, Nat.pow_zero, Nat.mul_one, own_signed, zV]
  show w * (1 : Int) ≤ T
  rw [Int.mul_one]; exact h
theorem own_rn_exact {T : Int} (h : own_rep T) : own_rn T = T := Int.le_antisymm (own_rn_le h (Int.le_refl _)) (own_rn_ge h (Int.le_refl _))
def own_B : Nat := own_pw 1200
theorem own_B_eq : own_B = 2 ^ 1200 := own_pw_eq 1200
theorem own_B_rep : own_rep (own_B : Int) := ⟨1, 1200, by rw [own_B_eq, Int.one_mul], by decide, by decide⟩
theorem own_rn_fin {T : Int} (h : T.natAbs ≤ own_B) : ∃ s c q, round b64 (.fin (decide (T < 0)) T.natAbs b64.qmin) = .fin s c q := by
  have a1 := own_rn_le own_B_rep (T := T) (by omega)
  have a2 := own_rn_ge (own_rep_neg own_B_rep) (T := T) (by omega)
  cases hv : round b64 (.fin (decide (T < 0)) T.natAbs b64.qmin) with
  | nan => exact absurd hv (own_round_nn _ _ _)
  | inf s =>
    exfalso
    have e : own_rn T = signed s (b64.tails * 2 ^ (b64.exps - 2)) := by
      show zval b64 (round b64 (.fin (decide (T < 0)) T.natAbs b64.qmin)) = _
      rw [hv]; rfl
    have t : b64.tails * 2 ^ (b64.exps - 2) = 2 ^ 2098 := by
      rw [tails_b64, show b64.exps - 2 = 2046 by decide]
      exact (Nat.pow_add 2 52 2046).symm
    have l : own_B < 2 ^ 2098 := by rw [own_B_eq]; exact Nat.pow_lt_pow_right (by decide) (by decide)
    rw [t] at e
    have n : (signed s (2 ^ 2098)).natAbs = 2 ^ 2098 := by rw [natAbs_signed]
    rw [e] at a1 a2
    clear t e hv
    generalize (2 : Nat) ^ 2098 = C at *
    omega
  | fin s c q => exact ⟨s, c, q, rfl⟩
theorem own_rn_rep {T : Int} (h : T.natAbs ≤ own_B) : own_rep (own_rn T) := by
  obtain ⟨s, c, q, hv⟩ := own_rn_fin h
  have f : Jvm.FP.Core.fits b64 (.fin s c q) := hv ▸ round_fits good_b64 _
  have e : own_rn T = signed s (c * 2 ^ (q - b64.qmin).toNat) := by
    show zval b64 (round b64 (.fin (decide (T < 0)) T.natAbs b64.qmin)) = _
    rw [hv]; rfl
  have hm : b64.qmax = 971 := by decide
  have hq := qmin_b64
  have q1 := f.2.1
  have q2 := f.2.2.1
  refine ⟨signed s c, (q - b64.qmin).toNat, ?_, ?_, by omega⟩
  · rw [e, signed_mul]
  · rw [natAbs_signed]; exact f.1
theorem own_rn_near {T w : Int} (h : T.natAbs ≤ own_B) (hw : own_rep w) : (T - own_rn T).natAbs ≤ (T - w).natAbs := by
  obtain ⟨t', c', q', hv⟩ := own_rn_fin h
  have hr : roundRatio b64 (decide (T < 0)) T.natAbs 1 b64.qmin = .fin t' c' q' := hv
  have st : t' = decide (T < 0) := by
    have k := sgn_roundRatio b64 (decide (T < 0)) T.natAbs 1 b64.qmin
    rw [hr] at k
    exact k
  obtain ⟨cw, j, rfl, hcw, hj⟩ := hw
  have near := roundRatio_nearest good_b64 (c' := cw.natAbs) (q' := b64.qmin + (j : Int)) (e0 := b64.qmin) (by decide) hr hcw (by omega) (Int.le_refl _) (Int.le_refl _)
  have H : own_rn T = signed t' (c' * 2 ^ (q' - b64.qmin).toNat) := by
    show zval b64 (round b64 (.fin (decide (T < 0)) T.natAbs b64.qmin)) = _
    rw [hv]; rfl
  rw [st] at H
  unfold distance at near
  rw [show inUnits cw.natAbs (b64.qmin + (j : Int)) b64.qmin = cw.natAbs * 2 ^ j by unfold inUnits; rw [show (b64.qmin + (j : Int) - b64.qmin).toNat = j by omega]] at near
  rw [show inUnits T.natAbs b64.qmin b64.qmin = T.natAbs by unfold inUnits; rw [Int.sub_self]; exact Nat.mul_one _] at near
  rw [show inUnits c' q' b64.qmin = c' * 2 ^ (q' - b64.qmin).toNat from rfl] at near
  rw [H]
  have hW : (cw * ((2 ^ j : Nat) : Int)).natAbs = cw.natAbs * 2 ^ j := by rw [Int.natAbs_mul, Int.natAbs_natCast]
  clear hr hv H st hcw
  generalize cw * ((2 ^ j : Nat) : Int) = W at *
  rw [← hW] at near
  generalize c' * 2 ^ (q' - b64.qmin).toNat = M at *
  by_cases hs : T < 0
  · simp only [hs, decide_true, signed, if_true]
    omega
  · simp only [hs, decide_false, signed, Bool.false_eq_true, if_false]
    omega
theorem own_rn_mono {T T' : Int} (h : T.natAbs ≤ own_B) (h' : T'.natAbs ≤ own_B) (hl : T ≤ T') : own_rn T ≤ own_rn T' := by
  by_cases e : T = T'
  · rw [e]; exact Int.le_refl _
  · have n1 := own_rn_near h (own_rn_rep h')
    have n2 := own_rn_near h' (own_rn_rep h)
    omega
theorem own_rep0 : own_rep 0 := ⟨0, 0, (Int.zero_mul _).symm, by decide, by decide⟩
theorem own_pow_succ (j : Nat) : ((2 ^ (j + 1) : Nat) : Int) = 2 * ((2 ^ j : Nat) : Int) := by
  rw [Nat.pow_succ, Int.natCast_mul, Int.mul_comm]; rfl
theorem own_rep_top {c : Int} {j : Nat} (h : c.natAbs ≤ 2 ^ 53) (hj : j ≤ 2044) : own_rep (c * ((2 ^ j : Nat) : Int)) := by
  by_cases k : c.natAbs < 2 ^ 53
  · exact ⟨c, j, rfl, k, by omega⟩
  · have e : c = 4503599627370496 * 2 ∨ c = -4503599627370496 * 2 := by omega
    rcases e with e | e
    · exact ⟨4503599627370496, j + 1, by rw [own_pow_succ, e, Int.mul_assoc], by decide, by omega⟩
    · exact ⟨-4503599627370496, j + 1, by rw [own_pow_succ, e, Int.mul_assoc], by decide, by omega⟩
/-- the error is at most half a unit -/
theorem own_half {T c : Int} {j : Nat} (h : T.natAbs ≤ own_B) (hc : own_rn T = c * ((2 ^ j : Nat) : Int)) (hc1 : c.natAbs < 2 ^ 53) (hj : j ≤ 2044) : 2 * (T - own_rn T).natAbs ≤ 2 ^ j := by
  have n1 := own_rn_near h (own_rep_top (c := c + 1) (j := j) (by omega) hj)
  have n2 := own_rn_near h (own_rep_top (c := c - 1) (j := j) (by omega) hj)
  rw [hc] at n1 n2 ⊢
  rw [Int.add_mul, Int.one_mul] at n1
  rw [Int.sub_mul, Int.one_mul] at n2
  have hp := Nat.two_pow_pos j
  clear hc
  generalize 2 ^ j = M at *
  generalize c * (M : Int) = z at *
  omega
theorem own_form {z : Int} (h : own_rep z) (hb : z.natAbs ≤ own_B) : ∃ (c : Int) (j : Nat), z = c * ((2 ^ j : Nat) : Int) ∧ c.natAbs < 2 ^ 53 ∧ j ≤ 1200 := by
  obtain ⟨c, j, hz, hc, hj⟩ := h
  by_cases k : j ≤ 1200
  · exact ⟨c, j, hz, hc, k⟩
  · refine ⟨0, 0, ?_, by decide, by decide⟩
    have h0 : c = 0 := by
      refine Int.natAbs_eq_zero.mp (Nat.eq_zero_of_not_pos fun q => ?_)
      rw [hz, Int.natAbs_mul, Int.natAbs_natCast, own_B_eq] at hb
      have h1 : (2 : Nat) ^ 1200 < 2 ^ j := Nat.pow_lt_pow_right (by decide) (by omega)
      have h2 : 1 * 2 ^ j ≤ c.natAbs * 2 ^ j := Nat.mul_le_mul_right _ (Nat.succ_le_of_lt q)
      rw [Nat.one_mul] at h2
      exact Nat.lt_irrefl _ (Nat.lt_of_lt_of_le h1 (Nat.le_trans h2 hb))
    rw [hz, h0, Int.zero_mul, Int.zero_mul]
theorem own_rep_two {z : Int} (h : own_rep z) (hb : z.natAbs ≤ own_B) : own_rep (2 * z) := by
  obtain ⟨c, j, hz, hc, hj⟩ := own_form h hb
  exact ⟨c, j + 1, by rw [hz, own_pow_succ, Int.mul_left_comm], hc, by omega⟩
def own_C : Nat := own_pw 1140
theorem own_C_eq : own_C = 2 ^ 1140 := own_pw_eq 1140
theorem own_CB : 4096 * own_C ≤ own_B := by
  have h : (2 : Nat) ^ 12 * 2 ^ 1140 = 2 ^ 1152 := (Nat.pow_add 2 12 1140).symm
  have h2 : (2 : Nat) ^ 1152 ≤ 2 ^ 1200 := Nat.pow_le_pow_right (by decide) (by decide)
  rw [own_C_eq, own_B_eq, show (4096 : Nat) = 2 ^ 12 from rfl, h]
  exact h2
theorem own_rn_bd {T : Int} {m : Nat} (hm : m ≤ 4096) (h : T.natAbs ≤ m * own_C) : (own_rn T).natAbs ≤ m * own_C := by
  have r : own_rep ((m * own_C : Nat) : Int) := ⟨(m : Int), 1140, by rw [own_C_eq, Int.natCast_mul], by rw [Int.natAbs_natCast]; exact Nat.lt_of_le_of_lt hm (by decide), by decide⟩
  generalize m * own_C = K at h r ⊢
  have a := own_rn_le r (T := T) (by omega)
  have b := own_rn_ge (own_rep_neg r) (T := T) (by omega)
  omega
theorem own_dadd_fin {x y : UInt64} (hx : DFin x) (hy : DFin y) (h : (own_z x + own_z y).natAbs ≤ own_B) : DFin (dadd x y) := by
  refine own_fin_of ?_ (own_dadd_rn hx hy) (own_rn_rep h)
  rw [val64_dadd]
  obtain ⟨s1, c1, q1, e1⟩ := hx
  obtain ⟨s2, c2, q2, e2⟩ := hy
  rw [e1, e2]
  exact own_round_nn _ _ _
theorem own_dsub_fin {x y : UInt64} (hx : DFin x) (hy : DFin y) (h : (own_z x - own_z y).natAbs ≤ own_B) : DFin (dsub x y) := by
  rw [dsub_eq]
  exact own_dadd_fin hx (own_neg hy).1 (by rw [(own_neg hy).2, ← Int.sub_eq_add_neg]; exact h)
theorem own_abs {a : UInt64} (h : DFin a) : DFin (a &&& 0x7fffffffffffffff) ∧ own_z (a &&& 0x7fffffffffffffff) = ((own_z a).natAbs : Int) := by
  have hn : val64 a ≠ .nan := h.ne_nan
  by_cases k : a.toNat < 2 ^ 63
  · have e : a &&& 0x7fffffffffffffff = a := by
      refine UInt64.toNat.inj ?_
      rw [mask_toNat, Nat.mod_eq_of_lt k]
    rw [e]
    refine ⟨h, ?_⟩
    have p := zval_nonneg hn k
    unfold own_z
    omega
  · have hv : val64 (a &&& 0x7fffffffffffffff) = negate (val64 a) := val64_neg_bits (.inl (by rw [mask_toNat]; have := a.toNat_lt; omega))
    have p := zval_nonpos hn (Nat.not_lt.mp k)
    obtain ⟨s, c, q, e⟩ := h
    refine ⟨⟨!s, c, q, by rw [hv, e]; rfl⟩, ?_⟩
    unfold own_z
    rw [hv, zval_negate]
    omega
theorem own_lowGe {v p : UInt64} (hv : DFin v) (hp : DFin p) (bv : (own_z v).natAbs ≤ 64 * own_C) (bp : (own_z p).natAbs ≤ 64 * own_C) (h : (own_z p).natAbs ≤ (own_z v).natAbs) :
    DFin (dsub (dadd v p) v) ∧ DFin (dsub p (dsub (dadd v p) v)) ∧ own_z (dsub p (dsub (dadd v p) v)) = own_z v + own_z p - own_z (dadd v p) := by
  have CB := own_CB
  have k := own_two hv hp (own_dadd_fin hv hp (by omega)) (own_rep_two (own_rep_fin hv) (by omega)) h
  exact ⟨k.1.1, k.2.1, k.2.2⟩
theorem own_lowLt {v p : UInt64} (hv : DFin v) (hp : DFin p) (bv : (own_z v).natAbs ≤ 64 * own_C) (bp : (own_z p).natAbs ≤ 64 * own_C) (h : (own_z v).natAbs ≤ (own_z p).natAbs) :
    DFin (dsub (dadd v p) p) ∧ DFin (dsub v (dsub (dadd v p) p)) ∧ own_z (dsub v (dsub (dadd v p) p)) = own_z v + own_z p - own_z (dadd v p) := by
  have k := own_lowGe hp hv bp bv h
  rw [dadd_comm p v] at k
  exact ⟨k.1, k.2.1, by rw [k.2.2, Int.add_comm]⟩
theorem own_z0 : own_z FP.dconst0 = 0 := by rw [own_is.zero.z, Int.zero_mul]
theorem own_n0 : val64 FP.dconst0 ≠ .nan := own_is.zero.val
theorem own_sgLt {x : UInt64} (hx : DFin x) (o : ClassFile.CmpOp) : Jvm.Op.cmpValue (FP.dcmp x FP.dconst0) o < 0 ↔ own_z x < 0 := by
  have h0 := own_z0
  rcases Int.lt_trichotomy (own_z x) 0 with k | k | k
  · rw [own_cmp_lt hx.ne_nan own_n0 (by omega)]; exact ⟨fun _ => k, fun _ => by decide⟩
  · rw [own_cmp_eq hx.ne_nan own_n0 (by omega)]; exact ⟨fun q => absurd q (by decide), fun q => by omega⟩
  · rw [own_cmp_gt hx.ne_nan own_n0 (by omega)]; exact ⟨fun q => absurd q (by decide), fun q => by omega⟩
theorem own_sgGt {x : UInt64} (hx : DFin x) (o : ClassFile.CmpOp) : 0 < Jvm.Op.cmpValue (FP.dcmp x FP.dconst0) o ↔ 0 < own_z x := by
  have h0 := own_z0
  rcases Int.lt_trichotomy (own_z x) 0 with k | k | k
  · rw [own_cmp_lt hx.ne_nan own_n0 (by omega)]; exact ⟨fun q => absurd q (by decide), fun q => by omega⟩
  · rw [own_cmp_eq hx.ne_nan own_n0 (by omega)]; exact ⟨fun q => absurd q (by decide), fun q => by omega⟩
  · rw [own_cmp_gt hx.ne_nan own_n0 (by omega)]; exact ⟨fun _ => k, fun _ => by decide⟩
theorem own_cmpEq {x y : UInt64} (hx : DFin x) (hy : DFin y) (o : ClassFile.CmpOp) : Jvm.Op.cmpValue (FP.dcmp x y) o = 0 ↔ own_z x = own_z y := by
  rcases Int.lt_trichotomy (own_z x) (own_z y) with k | k | k
  · rw [own_cmp_lt hx.ne_nan hy.ne_nan k]; exact ⟨fun q => absurd q (by decide), fun q => by omega⟩
  · rw [own_cmp_eq hx.ne_nan hy.ne_nan k]; exact ⟨fun _ => k, fun _ => rfl⟩
  · rw [own_cmp_gt hx.ne_nan hy.ne_nan k]; exact ⟨fun q => absurd q (by decide), fun q => by omega⟩
theorem own_f0 : DFin FP.dconst0 := own_is.zero.1
theorem own_sgEq {x : UInt64} (hx : DFin x) (o : ClassFile.CmpOp) : Jvm.Op.cmpValue (FP.dcmp x FP.dconst0) o = 0 ↔ own_z x = 0 := by
  rw [own_cmpEq hx own_f0, own_z0]
theorem own_absLt {v p : UInt64} (hv : DFin v) (hp : DFin p) : Jvm.Op.cmpValue (FP.dcmp (v &&& 0x7fffffffffffffff) (p &&& 0x7fffffffffffffff)) .l < 0 ↔ (own_z v).natAbs < (own_z p).natAbs := by
  obtain ⟨a1, a2⟩ := own_abs hv
  obtain ⟨b1, b2⟩ := own_abs hp
  rcases Int.lt_trichotomy (own_z (v &&& 0x7fffffffffffffff)) (own_z (p &&& 0x7fffffffffffffff)) with k | k | k
  · rw [own_cmp_lt a1.ne_nan b1.ne_nan k]; exact ⟨fun _ => by omega, fun _ => by decide⟩
  · rw [own_cmp_eq a1.ne_nan b1.ne_nan k]; exact ⟨fun q => absurd q (by decide), fun q => by omega⟩
  · rw [own_cmp_gt a1.ne_nan b1.ne_nan k]; exact ⟨fun q => absurd q (by decide), fun q => by omega⟩
/-! the parts -/
theorem own_mult {z c : Int} {i j : Nat} (hz : z = c * ((2 ^ i : Nat) : Int)) (h : j ≤ i) : ∃ d : Int, z = d * ((2 ^ j : Nat) : Int) :=
  ⟨c * ((2 ^ (i - j) : Nat) : Int), by rw [hz, Int.mul_assoc, ← Int.natCast_mul, ← Nat.pow_add, Nat.sub_add_cancel h]⟩
theorem own_K {a b d : Int} (ha : own_rep a) (hd : own_rep d) (hdr : d = own_rn (b + d)) (ba : a.natAbs ≤ 64 * own_C) (bb : b.natAbs ≤ 64 * own_C) (bd : d.natAbs ≤ 64 * own_C) :
    ∃ (m : Int) (j : Nat), own_rn (a + b) + d = m * ((2 ^ j : Nat) : Int) ∧ j ≤ 1200 ∧ 2 * (a + b - own_rn (a + b)).natAbs ≤ 2 ^ j := by
  have CB := own_CB
  have B1 : (a + b).natAbs ≤ own_B := by omega
  have B2 : (b + d).natAbs ≤ own_B := by omega
  have bd1 := own_rn_bd (m := 128) (T := a + b) (by decide) (by omega)
  obtain ⟨c1, j1, e1, k1, l1⟩ := own_form (own_rn_rep B1) (by omega)
  obtain ⟨c2, j2, e2, k2, l2⟩ := own_form hd (by omega)
  have h1 := own_half B1 e1 k1 (by omega)
  have h2 := own_half B2 (hdr.symm.trans e2) k2 (by omega)
  have n := own_rn_near B1 ha
  have h3 : 2 * (a + b - own_rn (a + b)).natAbs ≤ 2 ^ j2 := by
    rw [← hdr] at h2
    clear e1 e2 h1
    generalize 2 ^ j2 = M at *
    generalize own_rn (a + b) = R at *
    omega
  rcases Nat.le_total j1 j2 with q | q
  · obtain ⟨d2, f2⟩ := own_mult e2 q
    exact ⟨c1 + d2, j1, by rw [Int.add_mul, ← e1, ← f2], l1, h1⟩
  · obtain ⟨d1, f1⟩ := own_mult e1 q
    exact ⟨d1 + c2, j2, by rw [Int.add_mul, ← f1, ← e2], l2, h3⟩
theorem own_mult0 {D M X : Int} (hM : 0 < M) (h : X = D * M) (hX : X.natAbs < M.natAbs) : X = 0 := by
  rcases Int.lt_trichotomy D 0 with k | k | k
  · have t := Int.mul_le_mul_of_nonneg_right (show D ≤ -1 by omega) (Int.le_of_lt hM)
    rw [Int.neg_mul, Int.one_mul, ← h] at t
    omega
  · rw [h, k, Int.zero_mul]
  · have t := Int.mul_le_mul_of_nonneg_right (show 1 ≤ D by omega) (Int.le_of_lt hM)
    rw [Int.one_mul, ← h] at t
    omega
theorem own_even {w : Int} {j : Nat} (hw : own_rep w) (h : 2 ^ 53 * 2 ^ j ≤ w.natAbs) : ∃ d : Int, w = d * (2 * ((2 ^ j : Nat) : Int)) := by
  obtain ⟨d, hd⟩ := own_unit (z := 4503599627370496 * ((2 ^ (j + 1) : Nat) : Int)) (c := 4503599627370496) (j := j + 1) rfl (Or.inl (by decide)) hw (by
    rw [Int.natAbs_mul, Int.natAbs_natCast, Nat.pow_succ, show (4503599627370496 : Int).natAbs = 4503599627370496 from rfl]
    omega)
  exact ⟨d, by rw [hd, own_pow_succ]⟩
theorem own_three {S q m : Int} {j : Nat} (hS : S = m * ((2 ^ j : Nat) : Int)) (hj : j ≤ 2043) (hq : 2 * q.natAbs ≤ 2 ^ j) (b1 : S.natAbs ≤ own_B) (b2 : (S + q).natAbs ≤ own_B) (hns : own_rn S ≠ S) (hne : own_rn (S + q) ≠ own_rn S) : 2 * S = own_rn S + own_rn (S + q) := by
  have hm : 2 ^ 53 < m.natAbs := Nat.not_le.mp fun k => hns (own_rn_exact (hS ▸ own_rep_top k (by omega)))
  have r1 := own_rn_rep b1
  have r2 := own_rn_rep b2
  have n1 := own_rn_near b1 r2
  have n2 := own_rn_near b2 r1
  have w1 := own_rep_top (c := 9007199254740992) (j := j) (by decide) (by omega)
  have w2 := own_rep_top (c := -9007199254740992) (j := j) (by decide) (by omega)
  have hp := Nat.two_pow_pos j
  have ev : ∀ w : Int, own_rep w → 2 ^ 53 * 2 ^ j ≤ w.natAbs → ∃ d : Int, w = d * (2 * ((2 ^ j : Nat) : Int)) := fun w hw h => own_even hw h
  generalize 2 ^ j = N at *
  have g : 2 ^ 53 * N ≤ (own_rn S).natAbs ∧ 2 ^ 53 * N ≤ (own_rn (S + q)).natAbs := by
    by_cases s : 0 ≤ m
    · have k := Int.mul_le_mul_of_nonneg_right (show (9007199254740993 : Int) ≤ m by omega) (Int.natCast_nonneg N)
      rw [← hS] at k
      have a1 := own_rn_ge w1 (T := S) (by omega)
      have a2 := own_rn_ge w1 (T := S + q) (by omega)
      constructor <;> omega
    · have k := Int.mul_le_mul_of_nonneg_right (show m ≤ (-9007199254740993 : Int) by omega) (Int.natCast_nonneg N)
      rw [← hS] at k
      have a1 := own_rn_le w2 (T := S) (by omega)
      have a2 := own_rn_le w2 (T := S + q) (by omega)
      constructor <;> omega
  obtain ⟨d1, f1⟩ := ev _ r1 g.1
  obtain ⟨d2, f2⟩ := ev _ r2 g.2
  have e : m * (2 * (N : Int)) = 2 * S := by rw [hS, Int.mul_left_comm]
  have key : own_rn S + own_rn (S + q) - 2 * S = (d1 + d2 - m) * (2 * (N : Int)) := by rw [Int.sub_mul, Int.add_mul, ← f1, ← f2, e]
  have hX : (own_rn S + own_rn (S + q) - 2 * S).natAbs < (2 * (N : Int)).natAbs := by
    clear key e f1 f2 ev w1 w2 hS hm r1 r2 g
    generalize own_rn S = A at *
    generalize own_rn (S + q) = A' at *
    omega
  have z := own_mult0 (by omega) key hX
  omega
theorem own_dom {S : Int} (b : S.natAbs ≤ own_B) (b' : (own_rn S).natAbs ≤ own_B) : 2 * (S - own_rn S).natAbs ≤ (own_rn S).natAbs := by
  obtain ⟨c, j, e, k, l⟩ := own_form (own_rn_rep b) b'
  by_cases c0 : c = 0
  · have h := own_half (c := 0) (j := 0) b (by rw [e, c0, Int.zero_mul, Int.zero_mul]) (by decide) (by decide)
    rw [Nat.pow_zero] at h
    omega
  · have h := own_half b e k (by omega)
    have g : 2 ^ j ≤ (own_rn S).natAbs := by
      rw [e, Int.natAbs_mul, Int.natAbs_natCast]
      exact Nat.le_mul_of_pos_left _ (Int.natAbs_pos.mpr c0)
    exact Nat.le_trans h g
/-- what is left of a third sum that took three parts -/
def own_E3 (r0 r1 r2 : UInt64) : Prop := DFin r0 ∧ DFin r1 ∧ DFin r2 ∧ own_z r2 = own_rn (own_z r1 + own_z r2) ∧ own_z r1 ≠ 0 ∧
  (∃ (m : Int) (j : Nat), own_z r1 + own_z r2 = m * ((2 ^ j : Nat) : Int) ∧ j ≤ 1200 ∧ 2 * (own_z r0).natAbs ≤ 2 ^ j) ∧ (own_z r0).natAbs ≤ 512 * own_C ∧ (own_z r1).natAbs ≤ 512 * own_C ∧ (own_z r2).natAbs ≤ 512 * own_C
theorem own_s3 {r0 r1 r2 : UInt64} (E : own_E3 r0 r1 r2) : (DFin (dadd r2 r1) ∧ own_z (dadd r2 r1) = own_z r2) ∧ DFin (dsub (dadd r2 r1) r2) ∧ DFin (dsub r1 (dsub (dadd r2 r1) r2)) ∧ own_z (dsub r1 (dsub (dadd r2 r1) r2)) = own_z r1 := by
  obtain ⟨f0, f1, f2, h2, h1, -, b0, b1, b2⟩ := E
  have CB := own_CB
  have s1 : DFin (dadd r2 r1) := own_dadd_fin f2 f1 (by omega)
  have s2 : own_z (dadd r2 r1) = own_z r2 := by rw [own_dadd_rn f2 f1, Int.add_comm]; exact h2.symm
  have d := own_sub s1 f2 (by rw [s2, Int.sub_self]; exact own_rep0)
  have d2 : own_z (dsub (dadd r2 r1) r2) = 0 := by rw [d.2, s2, Int.sub_self]
  have l := own_sub f1 d.1 (by rw [d2, Int.sub_zero]; exact own_rep_fin f1)
  exact ⟨⟨s1, s2⟩, d.1, l.1, by rw [l.2, d2, Int.sub_zero]⟩
def own_same (a b : Int) : Prop := (a < 0 ∧ b < 0) ∨ (0 < a ∧ 0 < b)
/-- the rounded sum is another double just where the third part lies beyond a half -/
theorem own_off3 {r0 r1 r2 : UInt64} (E : own_E3 r0 r1 r2) (k : own_rn (own_z r0 + own_z r1 + own_z r2) ≠ own_z r2) : own_same (own_z r1) (own_z r0) ∧ own_rn (own_z r0 + own_z r1 + own_z r2) = own_z r2 + 2 * own_z r1 := by
  obtain ⟨f0, f1, f2, h2, h1, ⟨m, j, hm, hj, hq⟩, b0, b1, b2⟩ := E
  have CB := own_CB
  have e : own_z r0 + own_z r1 + own_z r2 = own_z r1 + own_z r2 + own_z r0 := by omega
  rw [e] at k ⊢
  have B1 : (own_z r1 + own_z r2).natAbs ≤ own_B := by omega
  have B2 : (own_z r1 + own_z r2 + own_z r0).natAbs ≤ own_B := by omega
  have t := own_three hm (by omega) hq B1 B2 (by rw [← h2]; omega) (by rw [← h2]; exact k)
  have mo1 := fun z => own_rn_mono B1 B2 z
  have mo2 := fun z => own_rn_mono B2 B1 z
  rw [← h2] at t mo1 mo2
  unfold own_same
  generalize own_rn (own_z r1 + own_z r2 + own_z r0) = R at *
  generalize own_z r0 = a at *
  generalize own_z r1 = b at *
  generalize own_z r2 = c at *
  clear hm hq h2 e
  by_cases p : b < 0
  · have q : a < 0 := Int.not_le.mp fun w => by have := mo1 (by omega); omega
    exact ⟨Or.inl ⟨p, q⟩, by omega⟩
  · have q : 0 < a := Int.not_le.mp fun w => by have := mo2 (by omega); omega
    exact ⟨Or.inr ⟨by omega, q⟩, by omega⟩
theorem own_no3 {r0 r1 r2 : UInt64} (E : own_E3 r0 r1 r2) (hs : ¬ own_same (own_z r1) (own_z r0)) : own_z (dadd r2 r1) = own_rn (own_z r0 + own_z r1 + own_z r2) := by
  rw [(own_s3 E).1.2]
  by_cases k : own_rn (own_z r0 + own_z r1 + own_z r2) = own_z r2
  · exact k.symm
  · exact absurd (own_off3 E k).1 hs
theorem own_is.two : own_is (4611686018427387904 : UInt64) 2 0 := by
  have v : val64 (4611686018427387904 : UInt64) = .fin false (2 ^ 52) (-51) := by decide +kernel
  refine ⟨⟨_, _, _, v⟩, ?_⟩
  show zval b64 (val64 (4611686018427387904 : UInt64)) * _ = _
  rw [v, own_U_eq]
  decide +kernel
theorem own_is.half : own_is (4602678819172646912 : UInt64) 1 1 := by
  have v : val64 (4602678819172646912 : UInt64) = .fin false (2 ^ 52) (-53) := by decide +kernel
  refine ⟨⟨_, _, _, v⟩, ?_⟩
  show zval b64 (val64 (4602678819172646912 : UInt64)) * _ = _
  rw [v, own_U_eq]
  decide +kernel
theorem own_twice {x : UInt64} (hx : DFin x) (b : (own_z x).natAbs ≤ own_B) : DFin (dmul (4611686018427387904 : UInt64) x) ∧ own_z (dmul (4611686018427387904 : UInt64) x) = 2 * own_z x :=
  own_mul own_is.two.1 hx (own_rep_two (own_rep_fin hx) b) (by rw [own_is.two.z]; exact Int.mul_right_comm _ _ _)
theorem own_yes3 {r0 r1 r2 : UInt64} (E : own_E3 r0 r1 r2) (hs : own_same (own_z r1) (own_z r0)) {s l : UInt64} (hs1 : DFin s) (hs2 : own_z s = own_z r2) (hl1 : DFin l) (hl2 : own_z l = own_z r1) :
    DFin (dmul 4611686018427387904 l) ∧ DFin (dadd s (dmul 4611686018427387904 l)) ∧ DFin (dsub (dadd s (dmul 4611686018427387904 l)) s) ∧
    (Jvm.Op.cmpValue (FP.dcmp (dsub (dadd s (dmul 4611686018427387904 l)) s) (dmul 4611686018427387904 l)) .l = 0 → own_z (dadd s (dmul 4611686018427387904 l)) = own_rn (own_z r0 + own_z r1 + own_z r2)) ∧
    (¬ Jvm.Op.cmpValue (FP.dcmp (dsub (dadd s (dmul 4611686018427387904 l)) s) (dmul 4611686018427387904 l)) .l = 0 → own_z s = own_rn (own_z r0 + own_z r1 + own_z r2)) := by
  have off := own_off3 E
  obtain ⟨f0, f1, f2, h2, h1, -, b0, b1, b2⟩ := E
  have CB := own_CB
  have B1 : (own_z r1 + own_z r2).natAbs ≤ own_B := by omega
  have B2 : (own_z r0 + own_z r1 + own_z r2).natAbs ≤ own_B := by omega
  have dom := own_dom B1 (by rw [← h2]; omega)
  rw [← h2] at dom
  obtain ⟨t1, t2⟩ := own_twice hl1 (by rw [hl2]; omega)
  rw [hl2] at t2
  generalize dmul 4611686018427387904 l = t at *
  have a1 : DFin (dadd s t) := own_dadd_fin hs1 t1 (by rw [hs2, t2]; omega)
  have fa := own_fast hs1 t1 a1 (by rw [hs2]; exact own_rep_two (own_rep_fin f2) (by omega)) (by rw [hs2, t2]; omega)
  have d := own_sub a1 hs1 fa
  have a2 := own_dadd_rn hs1 t1
  rw [hs2, t2] at a2
  refine ⟨t1, a1, d.1, ?_, ?_⟩
  · rw [own_cmpEq d.1 t1, d.2, t2, hs2]
    intro q
    by_cases k : own_rn (own_z r0 + own_z r1 + own_z r2) = own_z r2
    · exfalso
      have n := own_rn_near B2 (own_rep_fin a1)
      rw [k] at n
      unfold own_same at hs
      omega
    · rw [(off k).2]; omega
  · rw [own_cmpEq d.1 t1, d.2, t2, hs2]
    intro q
    by_cases k : own_rn (own_z r0 + own_z r1 + own_z r2) = own_z r2
    · exact k.symm
    · exfalso
      apply q
      have r := (off k).2
      rw [a2, ← r, own_rn_exact (own_rn_rep B2), r]
      omega
end Jvm.OwnFl
namespace Jvm.OwnFl
open Jvm.FP.Core
/-- an exact quotient, the divisor positive -/
theorem own_divS {x y : UInt64} {z : Int} (hx : DFin x) (hy : DFin y) (py : 0 < own_z y) (h : own_rep z) (e : own_z x * (own_U : Int) = z * own_z y) : DFin (ddiv x y) ∧ own_z (ddiv x y) = z := by
  rcases Int.le_total 0 (own_z x) with p | p
  · exact own_div hx hy p py h e
  · obtain ⟨n1, n2⟩ := own_neg hx
    obtain ⟨⟨s, c, q, v⟩, k2⟩ := own_div (z := -z) n1 hy (by omega) py (own_rep_neg h) (by rw [n2, Int.neg_mul, Int.neg_mul, e])
    have v' : val64 (ddiv (dneg x) y) = negate (val64 (ddiv x y)) := by rw [val64_ddiv, val64_ddiv, val64_dneg, quotient_negate]
    have v2 : val64 (ddiv x y) = negate (.fin s c q) := by rw [← v, v', negate_negate]
    refine ⟨⟨!s, c, q, v2⟩, ?_⟩
    have z2 : own_z (ddiv x y) = - own_z (ddiv (dneg x) y) := by unfold own_z; rw [v2, v, zval_negate]
    rw [z2, k2, Int.neg_neg]
theorem own_U_ne : (own_U : Int) ≠ 0 := Int.ne_of_gt own_U_pos
theorem own_d2l {x : UInt64} {n : Int} (hx : DFin x) (h : own_z x = n * (own_U : Int)) (hn : n.natAbs ≤ 2 ^ 62) : (d2l x).toInt = n := by
  have hz : signed (sgn (val64 x)) (zmag b64 (val64 x)) = n * (own_U : Int) := h
  have hm : zmag b64 (val64 x) = n.natAbs * own_U := by
    have k := congrArg Int.natAbs hz
    rw [natAbs_signed, Int.natAbs_mul, Int.natAbs_natCast] at k
    exact k
  have hd : zmag b64 (val64 x) / one64 = n.natAbs := by
    rw [hm, show one64 = own_U from own_U_eq.symm]
    exact Nat.mul_div_cancel _ (own_U_eq ▸ Nat.two_pow_pos 1074)
  have hs : signed (sgn (val64 x)) n.natAbs = n := by
    rw [hm, signed_mul] at hz
    exact Int.eq_of_mul_eq_mul_right own_U_ne hz
  rw [d2l_val hx.ne_nan, hd, hs]
  omega
theorem own_rep_int {n : Int} (h : n.natAbs ≤ 2 ^ 53) : own_rep (n * (own_U : Int)) := by
  rw [own_U_eq]
  exact own_rep_top h (by decide)
theorem own_UC : 2 ^ 66 * own_U = own_C := by
  rw [own_U_eq, own_C_eq]
  exact (Nat.pow_add 2 66 1074).symm
theorem own_int_bd {n : Int} (h : n.natAbs ≤ 2 ^ 65) : (n * (own_U : Int)).natAbs ≤ own_C := by
  rw [Int.natAbs_mul, Int.natAbs_natCast, ← own_UC]
  exact Nat.mul_le_mul_right _ (Nat.le_trans h (by decide))
theorem own_int_B {n : Int} (h : n.natAbs ≤ 2 ^ 65) : (n * (own_U : Int)).natAbs ≤ own_B := by
  have a := own_int_bd h
  have b := own_CB
  omega
theorem own_whole {n : Int} (hn : n.natAbs ≤ 2 ^ 62) : ∃ k : Int, own_rn (n * (own_U : Int)) = k * (own_U : Int) ∧ k.natAbs ≤ 2 ^ 62 := by
  have hB := own_int_B (n := n) (by omega)
  have key : ∃ k : Int, own_rn (n * (own_U : Int)) = k * (own_U : Int) := by
    by_cases h : n.natAbs ≤ 2 ^ 53
    · exact ⟨n, own_rn_exact (own_rep_int h)⟩
    · have hg : 2 ^ 53 * 2 ^ 1074 ≤ (own_rn (n * (own_U : Int))).natAbs := by
        rw [← own_U_eq]
        by_cases s : 0 ≤ n
        · have k := Int.mul_le_mul_of_nonneg_right (show (9007199254740992 : Int) ≤ n by omega) (Int.le_of_lt own_U_pos)
          have a := own_rn_ge (own_rep_int (n := 9007199254740992) (by decide)) k
          omega
        · have k := Int.mul_le_mul_of_nonneg_right (show n ≤ (-9007199254740992 : Int) by omega) (Int.le_of_lt own_U_pos)
          have a := own_rn_le (own_rep_int (n := -9007199254740992) (by decide)) k
          omega
      obtain ⟨d, hd⟩ := own_even (own_rn_rep hB) hg
      exact ⟨d * 2, by rw [hd, own_U_eq, Int.mul_assoc]⟩
  obtain ⟨k, hk⟩ := key
  refine ⟨k, hk, ?_⟩
  have r : own_rep ((4611686018427387904 : Int) * (own_U : Int)) := by
    have e : (4611686018427387904 : Int) * (own_U : Int) = 1 * ((2 ^ 1136 : Nat) : Int) := by
      rw [own_U_eq, Int.one_mul, show (2 : Nat) ^ 1136 = 2 ^ 62 * 2 ^ 1074 from Nat.pow_add 2 62 1074, Int.natCast_mul]; rfl
    rw [e]
    exact own_rep_top (by decide) (by decide)
  have u1 := own_rn_le r (Int.mul_le_mul_of_nonneg_right (show n ≤ 4611686018427387904 by omega) (Int.le_of_lt own_U_pos))
  have u2 := own_rn_ge (own_rep_neg r) (T := n * (own_U : Int)) (by rw [← Int.neg_mul]; exact Int.mul_le_mul_of_nonneg_right (by omega) (Int.le_of_lt own_U_pos))
  rw [hk] at u1 u2
  rw [← Int.neg_mul] at u2
  have v1 := Int.le_of_mul_le_mul_right u1 own_U_pos
  have v2 := Int.le_of_mul_le_mul_right u2 own_U_pos
  omega
/-- where the conversion there and back gives the number again, it is exact -/
theorem own_back {I : Int64} (hI : I.toInt.natAbs ≤ 2 ^ 62) : d2l (l2d I) = I ↔ own_z (l2d I) = I.toInt * (own_U : Int) := by
  obtain ⟨k, hk, bk⟩ := own_whole hI
  have h := own_d2l (l2d_fin I) ((own_l2d_rn I).trans hk) bk
  rw [own_l2d_rn, hk]
  constructor
  · intro e
    rw [e] at h
    rw [h]
  · intro e
    have e2 := Int.eq_of_mul_eq_mul_right own_U_ne e
    exact Int64.toInt_inj.mp (h.trans e2)
theorem own_rr_twice {s : Bool} {A : Nat} (hA : 0 < A) (hb : A < 2 ^ 63) : zval b64 (roundRatio b64 s A 1 1) = 2 * zval b64 (roundRatio b64 s A 1 0) := by
  have lg : A.log2 < 63 := (Nat.log2_lt (by omega)).mpr hb
  have l1 : (1 : Nat).log2 = 0 := by decide
  have hl : -1 ≤ leading A 1 ∧ leading A 1 ≤ 63 := by
    unfold leading
    rw [l1]
    dsimp only
    split <;> omega
  have hq := qmin_b64
  have hm : b64.qmax = 971 := by decide
  have hp : b64.p = 53 := by decide
  have q1 : quantum b64 A 1 1 = quantum b64 A 1 0 + 1 := by unfold quantum; rw [hp]; omega
  have q2 : b64.qmin ≤ quantum b64 A 1 0 ∧ quantum b64 A 1 0 ≤ 11 := by unfold quantum; rw [hp]; omega
  have hA0 : A ≠ 0 := by omega
  unfold roundRatio
  rw [if_neg hA0, if_neg hA0, q1]
  unfold roundAt
  generalize quantum b64 A 1 0 = q at *
  have u1 : unitsNum A 1 (q + 1) = unitsNum A 0 q := by unfold unitsNum; rw [show ((1 : Int) - (q + 1)).toNat = ((0 : Int) - q).toNat by omega]
  have u2 : unitsDen 1 1 (q + 1) = unitsDen 1 0 q := by unfold unitsDen; rw [show (q + 1 - (1 : Int)).toNat = (q - (0 : Int)).toNat by omega]
  rw [u1, u2]
  generalize nearest (unitsNum A 0 q) (unitsDen 1 0 q) = c
  have dbl : ∀ (c : Nat) (r : Int), b64.qmin ≤ r → zval b64 (.fin s c (r + 1)) = 2 * zval b64 (.fin s c r) := by
    intro c r hr
    show signed s (c * 2 ^ (r + 1 - b64.qmin).toNat) = 2 * signed s (c * 2 ^ (r - b64.qmin).toNat)
    rw [show (r + 1 - b64.qmin).toNat = (r - b64.qmin).toNat + 1 by omega, Nat.pow_succ, ← Nat.mul_assoc, signed_mul, Int.mul_comm]
    rfl
  have h1 : q ≤ b64.qmax := by omega
  have h2 : q + 1 ≤ b64.qmax := by omega
  have h3 : q + 1 + 1 ≤ b64.qmax := by omega
  unfold settle bound
  by_cases hc : c < 2 ^ b64.p
  · rw [if_pos hc, if_pos hc, if_pos h2, if_pos h1]
    exact dbl c q q2.1
  · rw [if_neg hc, if_neg hc, if_pos h3, if_pos h2]
    exact dbl _ (q + 1) (by omega)
theorem own_rn_twice {n : Int} (hn : n ≠ 0) (hb : n.natAbs < 2 ^ 63) : own_rn (2 * (n * (own_U : Int))) = 2 * own_rn (n * (own_U : Int)) := by
  have h0 := own_int_units n 0
  rw [Nat.add_zero, ← own_U_eq] at h0
  have h1 := own_int_units n 1
  rw [own_pow_succ, Int.mul_left_comm, ← own_U_eq] at h1
  have k0 := own_rn_of (by rw [qmin_b64]; decide) h0
  have k1 := own_rn_of (by rw [qmin_b64]; decide) h1
  rw [← k0, ← k1]
  exact own_rr_twice (by omega) hb
theorem own_two75 : ((2 ^ 1075 : Nat) : Int) = 2 * (own_U : Int) := by
  rw [own_U_eq]
  exact own_pow_succ 1074
theorem own_rep_half {w : Int} (h : own_rep w) (hb : 2 ^ 53 ≤ w.natAbs) : ∃ z : Int, w = 2 * z ∧ own_rep z := by
  obtain ⟨c, j, hz, hc, hj⟩ := h
  cases j with
  | zero =>
    exfalso
    rw [Nat.pow_zero] at hz
    have hz' : w = c := hz.trans (Int.mul_one c)
    omega
  | succ k => exact ⟨c * ((2 ^ k : Nat) : Int), by rw [hz, own_pow_succ, Int.mul_left_comm], c, k, rfl, hc, by omega⟩
/-- what the law expects where the sum of the whole numbers is no double -/
theorem own_stick {n s x : Int} (hn : 2 ^ 53 < n.natAbs) (hn2 : n.natAbs < 2 ^ 62) (hx : 2 * x.natAbs ≤ own_U) (hs : (0 < x ∧ s = 1) ∨ (x < 0 ∧ s = -1) ∨ (x = 0 ∧ s = 0)) :
    ∃ z : Int, own_rn ((2 * n + s) * (own_U : Int)) = 2 * z ∧ own_rep z ∧ z = own_rn (n * (own_U : Int) + x) := by
  have up := own_U_pos
  have UB := own_int_B (n := 2 * n + s) (by omega)
  have CB := own_CB
  have nB := own_int_bd (n := n) (by omega)
  have uB : own_U ≤ own_C := by rw [← own_UC]; exact Nat.le_mul_of_pos_left _ (by decide)
  have XB : (n * (own_U : Int) + x).natAbs ≤ own_B := by omega
  have wr := own_rn_rep UB
  have hr := own_rn_rep XB
  have w54 : 2 ^ 53 * 2 ^ 1075 ≤ (own_rn ((2 * n + s) * (own_U : Int))).natAbs := by
    have e : (2 : Nat) ^ 53 * 2 ^ 1075 = 2 ^ 54 * own_U := by
      rw [own_U_eq]
      exact (Nat.pow_add 2 53 1075).symm.trans (Nat.pow_add 2 54 1074)
    have r : ∀ c : Int, c.natAbs ≤ 1 → own_rep (c * 18014398509481984 * (own_U : Int)) := fun c hc => by
      have e2 : c * 18014398509481984 * (own_U : Int) = c * ((2 ^ 1128 : Nat) : Int) := by
        rw [own_U_eq, show (2 : Nat) ^ 1128 = 2 ^ 54 * 2 ^ 1074 from Nat.pow_add 2 54 1074, Int.natCast_mul, Int.mul_assoc]; rfl
      rw [e2]
      exact own_rep_top (Nat.le_trans hc (by decide)) (by decide)
    rw [e]
    by_cases p : 0 ≤ n
    · have k := Int.mul_le_mul_of_nonneg_right (show (1 * 18014398509481984 : Int) ≤ 2 * n + s by omega) (Int.le_of_lt up)
      have a := own_rn_ge (r 1 (by decide)) k
      omega
    · have k := Int.mul_le_mul_of_nonneg_right (show 2 * n + s ≤ (-1 * 18014398509481984 : Int) by omega) (Int.le_of_lt up)
      have a := own_rn_le (r (-1) (by decide)) k
      omega
  obtain ⟨z, hz, rz⟩ := own_rep_half wr (Nat.le_trans (Nat.le_mul_of_pos_right _ (Nat.two_pow_pos 1075)) w54)
  refine ⟨z, hz, rz, ?_⟩
  rcases hs with ⟨hx0, rfl⟩ | ⟨hx0, rfl⟩ | ⟨rfl, rfl⟩
  case inr.inr =>
    rw [Int.add_zero, Int.mul_assoc, own_rn_twice (by omega) (by omega)] at hz
    rw [Int.add_zero]
    omega
  all_goals
    obtain ⟨d, hd⟩ := own_even wr w54
    have hzU : ∃ a : Int, z = a * (2 * (own_U : Int)) := ⟨d, by
      rw [hz, own_two75, Int.mul_left_comm] at hd
      omega⟩
    have h53 : 2 ^ 53 * 2 ^ 1074 ≤ (own_rn (n * (own_U : Int) + x)).natAbs := by
      rw [← own_U_eq]
      by_cases p : 0 ≤ n
      · have k := Int.mul_le_mul_of_nonneg_right (show (9007199254740993 : Int) ≤ n by omega) (Int.le_of_lt up)
        have a := own_rn_ge (own_rep_int (n := 9007199254740992) (by decide)) (T := n * (own_U : Int) + x) (by omega)
        omega
      · have k := Int.mul_le_mul_of_nonneg_right (show n ≤ (-9007199254740993 : Int) by omega) (Int.le_of_lt up)
        have a := own_rn_le (own_rep_int (n := -9007199254740992) (by decide)) (T := n * (own_U : Int) + x) (by omega)
        omega
    obtain ⟨b, hb⟩ := own_even hr h53
    rw [← own_U_eq] at hb
    obtain ⟨a, ha⟩ := hzU
    have hB2 : (own_rn (n * (own_U : Int) + x)).natAbs ≤ own_B := by
      have t := own_rn_bd (m := 2) (T := n * (own_U : Int) + x) (by decide) (by omega)
      omega
    have n1 := own_rn_near UB (own_rep_two hr hB2)
    have n2 := own_rn_near XB rz
    rw [hz] at n1
    have ez : z + own_rn (n * (own_U : Int) + x) = (2 * (a + b)) * (own_U : Int) := by
      rw [ha, hb, ← Int.add_mul, Int.mul_assoc 2, Int.mul_left_comm 2]
    have e1 : (2 * n) * (own_U : Int) = 2 * (n * (own_U : Int)) := Int.mul_assoc _ _ _
    have e2 : (2 * n + 1) * (own_U : Int) = 2 * (n * (own_U : Int)) + (own_U : Int) := by rw [Int.add_mul, Int.one_mul, e1]
    have e3 : (2 * n + -1) * (own_U : Int) = 2 * (n * (own_U : Int)) - (own_U : Int) := by rw [Int.add_mul, Int.neg_mul, Int.one_mul, e1]; rfl
    refine Int.le_antisymm (Int.not_lt.mp fun g => ?_) (Int.not_lt.mp fun g => ?_)
  · have c1 : (2 * n) * (own_U : Int) < (2 * (a + b)) * (own_U : Int) := by rw [← ez, e1]; clear ha hb hd hz; omega
    have c2 : (2 * (a + b)) * (own_U : Int) ≤ (2 * n + 1) * (own_U : Int) := by rw [← ez, e2]; rw [e2] at n1; clear ha hb hd hz; omega
    have d1 := Int.lt_of_mul_lt_mul_right c1 (Int.le_of_lt up)
    have d2 := Int.le_of_mul_le_mul_right c2 up
    omega
  · have c1 : (2 * n + 1) * (own_U : Int) ≤ (2 * (a + b)) * (own_U : Int) := by rw [← ez, e2]; rw [e2] at n1; clear ha hb hd hz; omega
    have c2 : (2 * (a + b)) * (own_U : Int) ≤ (2 * n + 1) * (own_U : Int) := by rw [← ez, e2]; clear ha hb hd hz; omega
    have d1 := Int.le_of_mul_le_mul_right c1 up
    have d2 := Int.le_of_mul_le_mul_right c2 up
    omega
  · have c1 : (2 * n + -1) * (own_U : Int) ≤ (2 * (a + b)) * (own_U : Int) := by rw [← ez, e3]; clear ha hb hd hz; omega
    have c2 : (2 * (a + b)) * (own_U : Int) ≤ (2 * n + -1) * (own_U : Int) := by rw [← ez, e3]; rw [e3] at n1; clear ha hb hd hz; omega
    have d1 := Int.le_of_mul_le_mul_right c1 up
    have d2 := Int.le_of_mul_le_mul_right c2 up
    omega
  · have c1 : (2 * n + -1) * (own_U : Int) ≤ (2 * (a + b)) * (own_U : Int) := by rw [← ez, e3]; rw [e3] at n1; clear ha hb hd hz; omega
    have c2 : (2 * (a + b)) * (own_U : Int) < (2 * n) * (own_U : Int) := by rw [← ez, e1]; clear ha hb hd hz; omega
    have d1 := Int.le_of_mul_le_mul_right c1 up
    have d2 := Int.lt_of_mul_lt_mul_right c2 (Int.le_of_lt up)
    omega
end Jvm.OwnFl
namespace Jvm.Pilot.@@N@@
open Jvm Jvm.ClassFile Sem Op Lib Jvm.Free Jvm.Stand Jvm.LawKit Jvm.RoadKit Bundle Jvm.Free.Fl Jvm.OwnFl Jvm.Pilot.@@N@@.Jvm.D
theorem own_hw {a0 : Array Value} {Z : State} (hw : ∀ d ∈ tables_1, d.before a0 Z = true) (i : Nat) {d : Jvm.Cond} (h : tables_1[i]? = some d) : d.before a0 Z = true := hw d (List.mem_of_getElem? h)
section OwnKit
variable {p : Program} {l : Launch} {e : Env} {R : Room} {s : State} {m : MethodId} {args : Array Value} {below : List Frame} {meth : Method} {c : Code} {T : State} {locs : List Loc} {cells slots : Nat}
/-- from the state t the run goes on to a return of which Q holds -/
def own_Go (p : Program) (e : Env) (below : List Frame) (Fe : Outcome → State → List Loc → Prop) (Q : Option Value → Heap → List Loc → Prop) (t : State) : Prop :=
  ∃ s₂ o, Steps p.tables e below t s₂ ∧ s₂.status = .running ∧ Ended s₂ below o ∧ ∃ v L, o = .returned v ∧ Q v s₂.heap L ∧ Fe o s₂ L
theorem own_st {Fe : Outcome → State → List Loc → Prop} {Q : Option Value → Heap → List Loc → Prop} {t t' : State} (h : ∀ target, Steps p.tables e below t' target → Steps p.tables e below t target) (k : own_Go p e below Fe Q t') : own_Go p e below Fe Q t := by
  obtain ⟨s₂, o, h1, r⟩ := k
  exact ⟨s₂, o, h _ h1, r⟩
theorem own_tr {Fe : Outcome → State → List Loc → Prop} {Q : Option Value → Heap → List Loc → Prop} {t t' : State} (h : Steps p.tables e below t t') (k : own_Go p e below Fe Q t') : own_Go p e below Fe Q t := own_st (fun _ q => h.trans q) k
theorem own_ret (X : Stand p l e R s m args below meth c T locs cells slots) {K N : Nat} {Q : Option Value → Heap → List Loc → Prop} {t : State} (v : Option Value) (hv : meth.sig.returnType = none → v = none) (hlocks : meth.locks = false) (hK : cells ≤ K) (hN : slots ≤ N) (hQ : Q v T.heap locs)
    (hs : ∀ fs : List Frame, (∀ (f : JFrame) (acts : List Action), f.method = m → f.locked = none → f.entered = [] → (doReturn e (T.setTop f) acts v).1 = T.setFrames fs) → Steps p.tables e below t (T.setFrames fs)) : own_Go p e below (fun o u L => FrameEnd s o u L K N) Q t := by
  obtain ⟨fs, hr, hrun, hended, hW, hsame⟩ := X.leave (v := v) hv
  exact ⟨_, _, hs fs hr, hrun, hended, _, _, rfl, hQ, ⟨_, rfl⟩, hW, hsame.mono hK hN⟩
theorem own_retI (X : Stand p l e R s m args below meth c T locs cells slots) (hx : p.tables.exec = Jvm.exec) {pc : Nat} {Ls : Array Slot} {z : Int32} {rest : List Value} (hret : meth.sig.returnType = some .int) (hd : decode c.code pc = .ok (.ireturn, 1)) {fs : List Frame}
    (hl : ∀ (f : JFrame) (acts : List Action), f.method = m → f.locked = none → f.entered = [] → (doReturn e (T.setTop f) acts (some (.int z))).1 = T.setFrames fs) : Steps p.tables e below (T.setTop (mkF m pc Ls (.int z :: rest))) (T.setFrames fs) :=
  retOut X hx hret rfl (Or.inl ⟨rfl, Or.inl rfl, _, rfl⟩) hd hl
theorem own_retD (X : Stand p l e R s m args below meth c T locs cells slots) (hx : p.tables.exec = Jvm.exec) {pc : Nat} {Ls : Array Slot} {z : UInt64} {rest : List Value} (hret : meth.sig.returnType = some .double) (hd : decode c.code pc = .ok (.dreturn, 1)) {fs : List Frame}
    (hl : ∀ (f : JFrame) (acts : List Action), f.method = m → f.locked = none → f.entered = [] → (doReturn e (T.setTop f) acts (some (.double z))).1 = T.setFrames fs) : Steps p.tables e below (T.setTop (mkF m pc Ls (.double z :: rest))) (T.setFrames fs) :=
  retOut X hx hret rfl (Or.inr (Or.inr (Or.inl ⟨rfl, rfl, _, rfl⟩))) hd hl
theorem own_retJ (X : Stand p l e R s m args below meth c T locs cells slots) (hx : p.tables.exec = Jvm.exec) {pc : Nat} {Ls : Array Slot} {z : Int64} {rest : List Value} (hret : meth.sig.returnType = some .long) (hd : decode c.code pc = .ok (.lreturn, 1)) {fs : List Frame}
    (hl : ∀ (f : JFrame) (acts : List Action), f.method = m → f.locked = none → f.entered = [] → (doReturn e (T.setTop f) acts (some (.long z))).1 = T.setFrames fs) : Steps p.tables e below (T.setTop (mkF m pc Ls (.long z :: rest))) (T.setFrames fs) :=
  retOut X hx hret rfl (Or.inr (Or.inl ⟨rfl, rfl, _, rfl⟩)) hd hl
theorem own_retR (X : Stand p l e R s m args below meth c T locs cells slots) (hx : p.tables.exec = Jvm.exec) {pc : Nat} {Ls : Array Slot} {w : Value} {rest : List Value} {t : FieldType} (hret : meth.sig.returnType = some t) (ht : t.isReference = true) (hw : w.isRef = true) (hd : decode c.code pc = .ok (.areturn, 1)) {fs : List Frame}
    (hl : ∀ (f : JFrame) (acts : List Action), f.method = m → f.locked = none → f.entered = [] → (doReturn e (T.setTop f) acts (some w)).1 = T.setFrames fs) : Steps p.tables e below (T.setTop (mkF m pc Ls (w :: rest))) (T.setFrames fs) :=
  retOut X hx hret (by cases t <;> first | (cases ht; done) | rfl) (Or.inr (Or.inr (Or.inr (Or.inr ⟨rfl, ht, hw⟩)))) hd hl
theorem own_staKeep {Z : State} {h h' : Heap} {C n d : String} {v : Value} {ws : List Addr} (F : Sta Z h C n d v) (K : Keep h h' ws) (hn : ∀ x ∈ ws, ∀ cell : Cell, h[x]? = some cell → cell.vm.isStatics = false) : Sta Z h' C n d v := by
  obtain ⟨cf, i, k, f, st, cell, h1, h2, h3, h4, h5, h6, h7⟩ := F
  exact ⟨cf, i, k, f, st, cell, h1, h2, h3, h4, K.2.1 st cell h5 (fun q => by have := hn st q cell h5; rw [h6] at this; cases this), h6, h7⟩
end OwnKit
section OwnSteps
variable {p : Program} {l : Launch} {e : Env} {R : Room} {s : State} {m : MethodId} {args : Array Value} {below : List Frame} {meth : Method} {c : Code} {T : State} {locs : List Loc} {cells slots : Nat} {Fe : Outcome → State → List Loc → Prop} {Q : Option Value → Heap → List Loc → Prop} {pc : Nat} {Ls : Array Slot} {st : List Value} {Z : State} {a0 : Array Value} {h : Heap}
theorem own_iload (X : Stand p l e R s m args below meth c T locs cells slots) (hx : p.tables.exec = Jvm.exec) {i : Nat} {v : Int32} (pc' : Nat) (hp : pc + 2 = pc') (hd : decode c.code pc = .ok (.iload i, 2)) (hl : Ls[i]? = some (.val (.int v))) (k : own_Go p e below Fe Q (T.setTop (mkF m pc' Ls (.int v :: st)))) : own_Go p e below Fe Q (T.setTop (mkF m pc Ls (st))) := by
  subst hp
  exact own_st (fun _ hr => XS.iload X.here hx rfl hd hl hr) k
theorem own_iloadN (X : Stand p l e R s m args below meth c T locs cells slots) (hx : p.tables.exec = Jvm.exec) {i : Fin 4} {v : Int32} (pc' : Nat) (hp : pc + 1 = pc') (hd : decode c.code pc = .ok (.iload_n i, 1)) (hl : Ls[i.val]? = some (.val (.int v))) (k : own_Go p e below Fe Q (T.setTop (mkF m pc' Ls (.int v :: st)))) : own_Go p e below Fe Q (T.setTop (mkF m pc Ls (st))) := by
  subst hp
  exact own_st (fun _ hr => XS.iloadN X.here hx rfl hd hl hr) k
theorem own_istore (X : Stand p l e R s m args below meth c T locs cells slots) (hx : p.tables.exec = Jvm.exec) {i : Nat} {x : Int32} (pc' : Nat) (hp : pc + 2 = pc') (hd : decode c.code pc = .ok (.istore i, 2)) (Ls' : Array Slot) (hl : storeLocals Ls i (.int x) = some Ls') (k : own_Go p e below Fe Q (T.setTop (mkF m pc' Ls' (st)))) : own_Go p e below Fe Q (T.setTop (mkF m pc Ls (.int x :: st))) := by
  subst hp
  exact own_st (fun _ hr => XS.istore X.here hx rfl hd rfl hl hr) k
theorem own_istoreN (X : Stand p l e R s m args below meth c T locs cells slots) (hx : p.tables.exec = Jvm.exec) {i : Fin 4} {x : Int32} (pc' : Nat) (hp : pc + 1 = pc') (hd : decode c.code pc = .ok (.istore_n i, 1)) (Ls' : Array Slot) (hl : storeLocals Ls i.val (.int x) = some Ls') (k : own_Go p e below Fe Q (T.setTop (mkF m pc' Ls' (st)))) : own_Go p e below Fe Q (T.setTop (mkF m pc Ls (.int x :: st))) := by
  subst hp
  exact own_st (fun _ hr => XS.istoreN X.here hx rfl hd rfl hl hr) k
theorem own_lload (X : Stand p l e R s m args below meth c T locs cells slots) (hx : p.tables.exec = Jvm.exec) {i : Nat} {v : Int64} (pc' : Nat) (hp : pc + 2 = pc') (hd : decode c.code pc = .ok (.lload i, 2)) (hl : Ls[i]? = some (.val (.long v))) (k : own_Go p e below Fe Q (T.setTop (mkF m pc' Ls (.long v :: st)))) : own_Go p e below Fe Q (T.setTop (mkF m pc Ls (st))) := by
  subst hp
  exact own_st (fun _ hr => XS.lload X.here hx rfl hd hl hr) k
theorem own_lloadN (X : Stand p l e R s m args below meth c T locs cells slots) (hx : p.tables.exec = Jvm.exec) {i : Fin 4} {v : Int64} (pc' : Nat) (hp : pc + 1 = pc') (hd : decode c.code pc = .ok (.lload_n i, 1)) (hl : Ls[i.val]? = some (.val (.long v))) (k : own_Go p e below Fe Q (T.setTop (mkF m pc' Ls (.long v :: st)))) : own_Go p e below Fe Q (T.setTop (mkF m pc Ls (st))) := by
  subst hp
  exact own_st (fun _ hr => XS.lloadN X.here hx rfl hd hl hr) k
theorem own_lstore (X : Stand p l e R s m args below meth c T locs cells slots) (hx : p.tables.exec = Jvm.exec) {i : Nat} {x : Int64} (pc' : Nat) (hp : pc + 2 = pc') (hd : decode c.code pc = .ok (.lstore i, 2)) (Ls' : Array Slot) (hl : storeLocals Ls i (.long x) = some Ls') (k : own_Go p e below Fe Q (T.setTop (mkF m pc' Ls' (st)))) : own_Go p e below Fe Q (T.setTop (mkF m pc Ls (.long x :: st))) := by
  subst hp
  exact own_st (fun _ hr => XS.lstore X.here hx rfl hd rfl hl hr) k
theorem own_lstoreN (X : Stand p l e R s m args below meth c T locs cells slots) (hx : p.tables.exec = Jvm.exec) {i : Fin 4} {x : Int64} (pc' : Nat) (hp : pc + 1 = pc') (hd : decode c.code pc = .ok (.lstore_n i, 1)) (Ls' : Array Slot) (hl : storeLocals Ls i.val (.long x) = some Ls') (k : own_Go p e below Fe Q (T.setTop (mkF m pc' Ls' (st)))) : own_Go p e below Fe Q (T.setTop (mkF m pc Ls (.long x :: st))) := by
  subst hp
  exact own_st (fun _ hr => XS.lstoreN X.here hx rfl hd rfl hl hr) k
theorem own_dload (X : Stand p l e R s m args below meth c T locs cells slots) (hx : p.tables.exec = Jvm.exec) {i : Nat} {v : UInt64} (pc' : Nat) (hp : pc + 2 = pc') (hd : decode c.code pc = .ok (.dload i, 2)) (hl : Ls[i]? = some (.val (.double v))) (k : own_Go p e below Fe Q (T.setTop (mkF m pc' Ls (.double v :: st)))) : own_Go p e below Fe Q (T.setTop (mkF m pc Ls (st))) := by
  subst hp
  exact own_st (fun _ hr => XS.dload X.here hx rfl hd hl hr) k
theorem own_dloadN (X : Stand p l e R s m args below meth c T locs cells slots) (hx : p.tables.exec = Jvm.exec) {i : Fin 4} {v : UInt64} (pc' : Nat) (hp : pc + 1 = pc') (hd : decode c.code pc = .ok (.dload_n i, 1)) (hl : Ls[i.val]? = some (.val (.double v))) (k : own_Go p e below Fe Q (T.setTop (mkF m pc' Ls (.double v :: st)))) : own_Go p e below Fe Q (T.setTop (mkF m pc Ls (st))) := by
  subst hp
  exact own_st (fun _ hr => XS.dloadN X.here hx rfl hd hl hr) k
theorem own_dstore (X : Stand p l e R s m args below meth c T locs cells slots) (hx : p.tables.exec = Jvm.exec) {i : Nat} {x : UInt64} (pc' : Nat) (hp : pc + 2 = pc') (hd : decode c.code pc = .ok (.dstore i, 2)) (Ls' : Array Slot) (hl : storeLocals Ls i (.double x) = some Ls') (k : own_Go p e below Fe Q (T.setTop (mkF m pc' Ls' (st)))) : own_Go p e below Fe Q (T.setTop (mkF m pc Ls (.double x :: st))) := by
  subst hp
  exact own_st (fun _ hr => XS.dstore X.here hx rfl hd rfl hl hr) k
theorem own_dstoreN (X : Stand p l e R s m args below meth c T locs cells slots) (hx : p.tables.exec = Jvm.exec) {i : Fin 4} {x : UInt64} (pc' : Nat) (hp : pc + 1 = pc') (hd : decode c.code pc = .ok (.dstore_n i, 1)) (Ls' : Array Slot) (hl : storeLocals Ls i.val (.double x) = some Ls') (k : own_Go p e below Fe Q (T.setTop (mkF m pc' Ls' (st)))) : own_Go p e below Fe Q (T.setTop (mkF m pc Ls (.double x :: st))) := by
  subst hp
  exact own_st (fun _ hr => XS.dstoreN X.here hx rfl hd rfl hl hr) k
theorem own_aload (X : Stand p l e R s m args below meth c T locs cells slots) (hx : p.tables.exec = Jvm.exec) {i : Nat} {v : Value} (pc' : Nat) (hp : pc + 2 = pc') (hd : decode c.code pc = .ok (.aload i, 2)) (hl : Ls[i]? = some (.val v)) (hv : v.isRef = true) (k : own_Go p e below Fe Q (T.setTop (mkF m pc' Ls (v :: st)))) : own_Go p e below Fe Q (T.setTop (mkF m pc Ls (st))) := by
  subst hp
  exact own_st (fun _ hr => XS.aload X.here hx rfl hd hl hv hr) k
theorem own_aloadN (X : Stand p l e R s m args below meth c T locs cells slots) (hx : p.tables.exec = Jvm.exec) {i : Fin 4} {v : Value} (pc' : Nat) (hp : pc + 1 = pc') (hd : decode c.code pc = .ok (.aload_n i, 1)) (hl : Ls[i.val]? = some (.val v)) (hv : v.isRef = true) (k : own_Go p e below Fe Q (T.setTop (mkF m pc' Ls (v :: st)))) : own_Go p e below Fe Q (T.setTop (mkF m pc Ls (st))) := by
  subst hp
  exact own_st (fun _ hr => XS.aloadN X.here hx rfl hd hl hv hr) k
theorem own_astore (X : Stand p l e R s m args below meth c T locs cells slots) (hx : p.tables.exec = Jvm.exec) {i : Nat} {x : Value} (pc' : Nat) (hp : pc + 2 = pc') (hd : decode c.code pc = .ok (.astore i, 2)) (hv : x.isRef = true) (Ls' : Array Slot) (hl : storeLocals Ls i x = some Ls') (k : own_Go p e below Fe Q (T.setTop (mkF m pc' Ls' (st)))) : own_Go p e below Fe Q (T.setTop (mkF m pc Ls (x :: st))) := by
  subst hp
  exact own_st (fun _ hr => XS.astore X.here hx rfl hd rfl hv hl hr) k
theorem own_astoreN (X : Stand p l e R s m args below meth c T locs cells slots) (hx : p.tables.exec = Jvm.exec) {i : Fin 4} {x : Value} (pc' : Nat) (hp : pc + 1 = pc') (hd : decode c.code pc = .ok (.astore_n i, 1)) (hv : x.isRef = true) (Ls' : Array Slot) (hl : storeLocals Ls i.val x = some Ls') (k : own_Go p e below Fe Q (T.setTop (mkF m pc' Ls' (st)))) : own_Go p e below Fe Q (T.setTop (mkF m pc Ls (x :: st))) := by
  subst hp
  exact own_st (fun _ hr => XS.astoreN X.here hx rfl hd rfl hv hl hr) k
theorem own_iconst (X : Stand p l e R s m args below meth c T locs cells slots) (hx : p.tables.exec = Jvm.exec) {i : Int} (pc' : Nat) (hp : pc + 1 = pc') (hd : decode c.code pc = .ok (.iconst i, 1)) (z : Int32) (hz : Int32.ofInt i = z) (k : own_Go p e below Fe Q (T.setTop (mkF m pc' Ls (.int z :: st)))) : own_Go p e below Fe Q (T.setTop (mkF m pc Ls (st))) := by
  subst hp; subst hz
  exact own_st (fun _ hr => XS.iconst X.here hx rfl hd hr) k
theorem own_bipush (X : Stand p l e R s m args below meth c T locs cells slots) (hx : p.tables.exec = Jvm.exec) {i : Int} (pc' : Nat) (hp : pc + 2 = pc') (hd : decode c.code pc = .ok (.bipush i, 2)) (z : Int32) (hz : (Int8.ofInt i).toInt32 = z) (k : own_Go p e below Fe Q (T.setTop (mkF m pc' Ls (.int z :: st)))) : own_Go p e below Fe Q (T.setTop (mkF m pc Ls (st))) := by
  subst hp; subst hz
  exact own_st (fun _ hr => XS.bipush X.here hx rfl hd hr) k
theorem own_sipush (X : Stand p l e R s m args below meth c T locs cells slots) (hx : p.tables.exec = Jvm.exec) {i : Int} (pc' : Nat) (hp : pc + 3 = pc') (hd : decode c.code pc = .ok (.sipush i, 3)) (z : Int32) (hz : (Int16.ofInt i).toInt32 = z) (k : own_Go p e below Fe Q (T.setTop (mkF m pc' Ls (.int z :: st)))) : own_Go p e below Fe Q (T.setTop (mkF m pc Ls (st))) := by
  subst hp; subst hz
  exact own_st (fun _ hr => XS.sipush X.here hx rfl hd hr) k
theorem own_lconst (X : Stand p l e R s m args below meth c T locs cells slots) (hx : p.tables.exec = Jvm.exec) {i : Fin 2} (pc' : Nat) (hp : pc + 1 = pc') (hd : decode c.code pc = .ok (.lconst i, 1)) (z : Int64) (hz : Int64.ofNat i = z) (k : own_Go p e below Fe Q (T.setTop (mkF m pc' Ls (.long z :: st)))) : own_Go p e below Fe Q (T.setTop (mkF m pc Ls (st))) := by
  subst hp; subst hz
  exact own_st (fun _ hr => XS.lconst X.here hx rfl hd hr) k
theorem own_dconst0 (X : Stand p l e R s m args below meth c T locs cells slots) (hx : p.tables.exec = Jvm.exec)  (pc' : Nat) (hp : pc + 1 = pc') (hd : decode c.code pc = .ok (.dconst 0, 1))  (k : own_Go p e below Fe Q (T.setTop (mkF m pc' Ls (.double FP.dconst0 :: st)))) : own_Go p e below Fe Q (T.setTop (mkF m pc Ls (st))) := by
  subst hp
  exact own_st (fun _ hr => XS.dconst0 X.here hx rfl hd rfl hr) k
theorem own_dconst1 (X : Stand p l e R s m args below meth c T locs cells slots) (hx : p.tables.exec = Jvm.exec)  (pc' : Nat) (hp : pc + 1 = pc') (hd : decode c.code pc = .ok (.dconst 1, 1))  (k : own_Go p e below Fe Q (T.setTop (mkF m pc' Ls (.double FP.dconst1 :: st)))) : own_Go p e below Fe Q (T.setTop (mkF m pc Ls (st))) := by
  subst hp
  exact own_st (fun _ hr => XS.dconst1 X.here hx rfl hd rfl hr) k
theorem own_aconst_null (X : Stand p l e R s m args below meth c T locs cells slots) (hx : p.tables.exec = Jvm.exec)  (pc' : Nat) (hp : pc + 1 = pc') (hd : decode c.code pc = .ok (.aconst_null, 1))  (k : own_Go p e below Fe Q (T.setTop (mkF m pc' Ls (.null :: st)))) : own_Go p e below Fe Q (T.setTop (mkF m pc Ls (st))) := by
  subst hp
  exact own_st (fun _ hr => XS.aconstNull X.here hx rfl hd hr) k
theorem own_iadd (X : Stand p l e R s m args below meth c T locs cells slots) (hx : p.tables.exec = Jvm.exec) {x y : Int32} (pc' : Nat) (hp : pc + 1 = pc') (hd : decode c.code pc = .ok (.iadd, 1)) (z : Int32) (hz : x + y = z) (k : own_Go p e below Fe Q (T.setTop (mkF m pc' Ls (.int z :: st)))) : own_Go p e below Fe Q (T.setTop (mkF m pc Ls (.int y :: .int x :: st))) := by
  subst hp; subst hz
  exact own_st (fun _ hr => XS.iadd X.here hx rfl hd rfl hr) k
theorem own_isub (X : Stand p l e R s m args below meth c T locs cells slots) (hx : p.tables.exec = Jvm.exec) {x y : Int32} (pc' : Nat) (hp : pc + 1 = pc') (hd : decode c.code pc = .ok (.isub, 1)) (z : Int32) (hz : x - y = z) (k : own_Go p e below Fe Q (T.setTop (mkF m pc' Ls (.int z :: st)))) : own_Go p e below Fe Q (T.setTop (mkF m pc Ls (.int y :: .int x :: st))) := by
  subst hp; subst hz
  exact own_st (fun _ hr => XS.isub X.here hx rfl hd rfl hr) k
theorem own_imul (X : Stand p l e R s m args below meth c T locs cells slots) (hx : p.tables.exec = Jvm.exec) {x y : Int32} (pc' : Nat) (hp : pc + 1 = pc') (hd : decode c.code pc = .ok (.imul, 1)) (z : Int32) (hz : x * y = z) (k : own_Go p e below Fe Q (T.setTop (mkF m pc' Ls (.int z :: st)))) : own_Go p e below Fe Q (T.setTop (mkF m pc Ls (.int y :: .int x :: st))) := by
  subst hp; subst hz
  exact own_st (fun _ hr => XS.imul X.here hx rfl hd rfl hr) k
theorem own_iand (X : Stand p l e R s m args below meth c T locs cells slots) (hx : p.tables.exec = Jvm.exec) {x y : Int32} (pc' : Nat) (hp : pc + 1 = pc') (hd : decode c.code pc = .ok (.iand, 1)) (z : Int32) (hz : x &&& y = z) (k : own_Go p e below Fe Q (T.setTop (mkF m pc' Ls (.int z :: st)))) : own_Go p e below Fe Q (T.setTop (mkF m pc Ls (.int y :: .int x :: st))) := by
  subst hp; subst hz
  exact own_st (fun _ hr => XS.iand X.here hx rfl hd rfl hr) k
theorem own_ior (X : Stand p l e R s m args below meth c T locs cells slots) (hx : p.tables.exec = Jvm.exec) {x y : Int32} (pc' : Nat) (hp : pc + 1 = pc') (hd : decode c.code pc = .ok (.ior, 1)) (z : Int32) (hz : x ||| y = z) (k : own_Go p e below Fe Q (T.setTop (mkF m pc' Ls (.int z :: st)))) : own_Go p e below Fe Q (T.setTop (mkF m pc Ls (.int y :: .int x :: st))) := by
  subst hp; subst hz
  exact own_st (fun _ hr => XS.ior X.here hx rfl hd rfl hr) k
theorem own_ixor (X : Stand p l e R s m args below meth c T locs cells slots) (hx : p.tables.exec = Jvm.exec) {x y : Int32} (pc' : Nat) (hp : pc + 1 = pc') (hd : decode c.code pc = .ok (.ixor, 1)) (z : Int32) (hz : x ^^^ y = z) (k : own_Go p e below Fe Q (T.setTop (mkF m pc' Ls (.int z :: st)))) : own_Go p e below Fe Q (T.setTop (mkF m pc Ls (.int y :: .int x :: st))) := by
  subst hp; subst hz
  exact own_st (fun _ hr => XS.ixor X.here hx rfl hd rfl hr) k
theorem own_ineg (X : Stand p l e R s m args below meth c T locs cells slots) (hx : p.tables.exec = Jvm.exec) {x : Int32} (pc' : Nat) (hp : pc + 1 = pc') (hd : decode c.code pc = .ok (.ineg, 1)) (z : Int32) (hz : -x = z) (k : own_Go p e below Fe Q (T.setTop (mkF m pc' Ls (.int z :: st)))) : own_Go p e below Fe Q (T.setTop (mkF m pc Ls (.int x :: st))) := by
  subst hp; subst hz
  exact own_st (fun _ hr => XS.ineg X.here hx rfl hd rfl hr) k
theorem own_idiv (X : Stand p l e R s m args below meth c T locs cells slots) (hx : p.tables.exec = Jvm.exec) {x y : Int32} (pc' : Nat) (hp : pc + 1 = pc') (hd : decode c.code pc = .ok (.idiv, 1)) (hy : y ≠ 0) (z : Int32) (hz : x / y = z) (k : own_Go p e below Fe Q (T.setTop (mkF m pc' Ls (.int z :: st)))) : own_Go p e below Fe Q (T.setTop (mkF m pc Ls (.int y :: .int x :: st))) := by
  subst hp; subst hz
  exact own_st (fun _ hr => XS.idiv X.here hx rfl hd rfl hy hr) k
theorem own_ladd (X : Stand p l e R s m args below meth c T locs cells slots) (hx : p.tables.exec = Jvm.exec) {x y : Int64} (pc' : Nat) (hp : pc + 1 = pc') (hd : decode c.code pc = .ok (.ladd, 1)) (z : Int64) (hz : x + y = z) (k : own_Go p e below Fe Q (T.setTop (mkF m pc' Ls (.long z :: st)))) : own_Go p e below Fe Q (T.setTop (mkF m pc Ls (.long y :: .long x :: st))) := by
  subst hp; subst hz
  exact own_st (fun _ hr => XS.ladd X.here hx rfl hd rfl hr) k
theorem own_lsub (X : Stand p l e R s m args below meth c T locs cells slots) (hx : p.tables.exec = Jvm.exec) {x y : Int64} (pc' : Nat) (hp : pc + 1 = pc') (hd : decode c.code pc = .ok (.lsub, 1)) (z : Int64) (hz : x - y = z) (k : own_Go p e below Fe Q (T.setTop (mkF m pc' Ls (.long z :: st)))) : own_Go p e below Fe Q (T.setTop (mkF m pc Ls (.long y :: .long x :: st))) := by
  subst hp; subst hz
  exact own_st (fun _ hr => XS.lsub X.here hx rfl hd rfl hr) k
theorem own_lmul (X : Stand p l e R s m args below meth c T locs cells slots) (hx : p.tables.exec = Jvm.exec) {x y : Int64} (pc' : Nat) (hp : pc + 1 = pc') (hd : decode c.code pc = .ok (.lmul, 1)) (z : Int64) (hz : x * y = z) (k : own_Go p e below Fe Q (T.setTop (mkF m pc' Ls (.long z :: st)))) : own_Go p e below Fe Q (T.setTop (mkF m pc Ls (.long y :: .long x :: st))) := by
  subst hp; subst hz
  exact own_st (fun _ hr => XS.lmul X.here hx rfl hd rfl hr) k
theorem own_land (X : Stand p l e R s m args below meth c T locs cells slots) (hx : p.tables.exec = Jvm.exec) {x y : Int64} (pc' : Nat) (hp : pc + 1 = pc') (hd : decode c.code pc = .ok (.land, 1)) (z : Int64) (hz : x &&& y = z) (k : own_Go p e below Fe Q (T.setTop (mkF m pc' Ls (.long z :: st)))) : own_Go p e below Fe Q (T.setTop (mkF m pc Ls (.long y :: .long x :: st))) := by
  subst hp; subst hz
  exact own_st (fun _ hr => XS.land X.here hx rfl hd rfl hr) k
theorem own_lor (X : Stand p l e R s m args below meth c T locs cells slots) (hx : p.tables.exec = Jvm.exec) {x y : Int64} (pc' : Nat) (hp : pc + 1 = pc') (hd : decode c.code pc = .ok (.lor, 1)) (z : Int64) (hz : x ||| y = z) (k : own_Go p e below Fe Q (T.setTop (mkF m pc' Ls (.long z :: st)))) : own_Go p e below Fe Q (T.setTop (mkF m pc Ls (.long y :: .long x :: st))) := by
  subst hp; subst hz
  exact own_st (fun _ hr => XS.lor X.here hx rfl hd rfl hr) k
theorem own_lxor (X : Stand p l e R s m args below meth c T locs cells slots) (hx : p.tables.exec = Jvm.exec) {x y : Int64} (pc' : Nat) (hp : pc + 1 = pc') (hd : decode c.code pc = .ok (.lxor, 1)) (z : Int64) (hz : x ^^^ y = z) (k : own_Go p e below Fe Q (T.setTop (mkF m pc' Ls (.long z :: st)))) : own_Go p e below Fe Q (T.setTop (mkF m pc Ls (.long y :: .long x :: st))) := by
  subst hp; subst hz
  exact own_st (fun _ hr => XS.lxor X.here hx rfl hd rfl hr) k
theorem own_lneg (X : Stand p l e R s m args below meth c T locs cells slots) (hx : p.tables.exec = Jvm.exec) {x : Int64} (pc' : Nat) (hp : pc + 1 = pc') (hd : decode c.code pc = .ok (.lneg, 1)) (z : Int64) (hz : -x = z) (k : own_Go p e below Fe Q (T.setTop (mkF m pc' Ls (.long z :: st)))) : own_Go p e below Fe Q (T.setTop (mkF m pc Ls (.long x :: st))) := by
  subst hp; subst hz
  exact own_st (fun _ hr => XS.lneg X.here hx rfl hd rfl hr) k
theorem own_ldiv (X : Stand p l e R s m args below meth c T locs cells slots) (hx : p.tables.exec = Jvm.exec) {x y : Int64} (pc' : Nat) (hp : pc + 1 = pc') (hd : decode c.code pc = .ok (.ldiv, 1)) (hy : y ≠ 0) (z : Int64) (hz : x / y = z) (k : own_Go p e below Fe Q (T.setTop (mkF m pc' Ls (.long z :: st)))) : own_Go p e below Fe Q (T.setTop (mkF m pc Ls (.long y :: .long x :: st))) := by
  subst hp; subst hz
  exact own_st (fun _ hr => XS.ldiv X.here hx rfl hd rfl hy hr) k
theorem own_irem (X : Stand p l e R s m args below meth c T locs cells slots) (hx : p.tables.exec = Jvm.exec) {x y : Int32} (pc' : Nat) (hp : pc + 1 = pc') (hd : decode c.code pc = .ok (.irem, 1)) (hy : y ≠ 0) (z : Int32) (hz : x % y = z) (k : own_Go p e below Fe Q (T.setTop (mkF m pc' Ls (.int z :: st)))) : own_Go p e below Fe Q (T.setTop (mkF m pc Ls (.int y :: .int x :: st))) := by
  subst hp; subst hz
  exact own_st (fun _ hr => iremM (g := mkF m pc Ls (.int y :: .int x :: st)) X hx rfl hd rfl hy hr) k
theorem own_lrem (X : Stand p l e R s m args below meth c T locs cells slots) (hx : p.tables.exec = Jvm.exec) {x y : Int64} (pc' : Nat) (hp : pc + 1 = pc') (hd : decode c.code pc = .ok (.lrem, 1)) (hy : y ≠ 0) (z : Int64) (hz : x % y = z) (k : own_Go p e below Fe Q (T.setTop (mkF m pc' Ls (.long z :: st)))) : own_Go p e below Fe Q (T.setTop (mkF m pc Ls (.long y :: .long x :: st))) := by
  subst hp; subst hz
  exact own_st (fun _ hr => XS.lrem X.here hx rfl hd rfl hy (by rw [lrem_mod]; exact hr)) k
theorem own_ishl (X : Stand p l e R s m args below meth c T locs cells slots) (hx : p.tables.exec = Jvm.exec) {x : Int32} {y : Int32} (pc' : Nat) (hp : pc + 1 = pc') (hd : decode c.code pc = .ok (.ishl, 1)) (z : Int32) (hz : x <<< (y &&& 31) = z) (k : own_Go p e below Fe Q (T.setTop (mkF m pc' Ls (.int z :: st)))) : own_Go p e below Fe Q (T.setTop (mkF m pc Ls (.int y :: .int x :: st))) := by
  subst hp; subst hz
  exact own_st (fun _ hr => XS.ishl X.here hx rfl hd rfl hr) k
theorem own_ishr (X : Stand p l e R s m args below meth c T locs cells slots) (hx : p.tables.exec = Jvm.exec) {x : Int32} {y : Int32} (pc' : Nat) (hp : pc + 1 = pc') (hd : decode c.code pc = .ok (.ishr, 1)) (z : Int32) (hz : x >>> (y &&& 31) = z) (k : own_Go p e below Fe Q (T.setTop (mkF m pc' Ls (.int z :: st)))) : own_Go p e below Fe Q (T.setTop (mkF m pc Ls (.int y :: .int x :: st))) := by
  subst hp; subst hz
  exact own_st (fun _ hr => XS.ishr X.here hx rfl hd rfl hr) k
theorem own_iushr (X : Stand p l e R s m args below meth c T locs cells slots) (hx : p.tables.exec = Jvm.exec) {x : Int32} {y : Int32} (pc' : Nat) (hp : pc + 1 = pc') (hd : decode c.code pc = .ok (.iushr, 1)) (z : Int32) (hz : (x.toUInt32 >>> (y &&& 31).toUInt32).toInt32 = z) (k : own_Go p e below Fe Q (T.setTop (mkF m pc' Ls (.int z :: st)))) : own_Go p e below Fe Q (T.setTop (mkF m pc Ls (.int y :: .int x :: st))) := by
  subst hp; subst hz
  exact own_st (fun _ hr => XS.iushr X.here hx rfl hd rfl hr) k
theorem own_lshl (X : Stand p l e R s m args below meth c T locs cells slots) (hx : p.tables.exec = Jvm.exec) {x : Int64} {y : Int32} (pc' : Nat) (hp : pc + 1 = pc') (hd : decode c.code pc = .ok (.lshl, 1)) (z : Int64) (hz : x <<< (y &&& 0x3f).toInt64 = z) (k : own_Go p e below Fe Q (T.setTop (mkF m pc' Ls (.long z :: st)))) : own_Go p e below Fe Q (T.setTop (mkF m pc Ls (.int y :: .long x :: st))) := by
  subst hp; subst hz
  exact own_st (fun _ hr => XS.lshl X.here hx rfl hd rfl hr) k
theorem own_lshr (X : Stand p l e R s m args below meth c T locs cells slots) (hx : p.tables.exec = Jvm.exec) {x : Int64} {y : Int32} (pc' : Nat) (hp : pc + 1 = pc') (hd : decode c.code pc = .ok (.lshr, 1)) (z : Int64) (hz : x >>> (y &&& 0x3f).toInt64 = z) (k : own_Go p e below Fe Q (T.setTop (mkF m pc' Ls (.long z :: st)))) : own_Go p e below Fe Q (T.setTop (mkF m pc Ls (.int y :: .long x :: st))) := by
  subst hp; subst hz
  exact own_st (fun _ hr => XS.lshr X.here hx rfl hd rfl hr) k
theorem own_lushr (X : Stand p l e R s m args below meth c T locs cells slots) (hx : p.tables.exec = Jvm.exec) {x : Int64} {y : Int32} (pc' : Nat) (hp : pc + 1 = pc') (hd : decode c.code pc = .ok (.lushr, 1)) (z : Int64) (hz : (x.toUInt64 >>> (y &&& 0x3f).toInt64.toUInt64).toInt64 = z) (k : own_Go p e below Fe Q (T.setTop (mkF m pc' Ls (.long z :: st)))) : own_Go p e below Fe Q (T.setTop (mkF m pc Ls (.int y :: .long x :: st))) := by
  subst hp; subst hz
  exact own_st (fun _ hr => XS.lushr X.here hx rfl hd rfl hr) k
theorem own_i2l (X : Stand p l e R s m args below meth c T locs cells slots) (hx : p.tables.exec = Jvm.exec) {x : Int32} (pc' : Nat) (hp : pc + 1 = pc') (hd : decode c.code pc = .ok (.i2l, 1)) (z : Int64) (hz : x.toInt64 = z) (k : own_Go p e below Fe Q (T.setTop (mkF m pc' Ls (.long z :: st)))) : own_Go p e below Fe Q (T.setTop (mkF m pc Ls (.int x :: st))) := by
  subst hp; subst hz
  exact own_st (fun _ hr => XS.i2l X.here hx rfl hd rfl hr) k
theorem own_l2i (X : Stand p l e R s m args below meth c T locs cells slots) (hx : p.tables.exec = Jvm.exec) {x : Int64} (pc' : Nat) (hp : pc + 1 = pc') (hd : decode c.code pc = .ok (.l2i, 1)) (z : Int32) (hz : x.toInt32 = z) (k : own_Go p e below Fe Q (T.setTop (mkF m pc' Ls (.int z :: st)))) : own_Go p e below Fe Q (T.setTop (mkF m pc Ls (.long x :: st))) := by
  subst hp; subst hz
  exact own_st (fun _ hr => XS.l2i X.here hx rfl hd rfl hr) k
theorem own_i2b (X : Stand p l e R s m args below meth c T locs cells slots) (hx : p.tables.exec = Jvm.exec) {x : Int32} (pc' : Nat) (hp : pc + 1 = pc') (hd : decode c.code pc = .ok (.i2b, 1)) (z : Int32) (hz : x.toInt8.toInt32 = z) (k : own_Go p e below Fe Q (T.setTop (mkF m pc' Ls (.int z :: st)))) : own_Go p e below Fe Q (T.setTop (mkF m pc Ls (.int x :: st))) := by
  subst hp; subst hz
  exact own_st (fun _ hr => XS.i2b X.here hx rfl hd rfl hr) k
theorem own_i2s (X : Stand p l e R s m args below meth c T locs cells slots) (hx : p.tables.exec = Jvm.exec) {x : Int32} (pc' : Nat) (hp : pc + 1 = pc') (hd : decode c.code pc = .ok (.i2s, 1)) (z : Int32) (hz : x.toInt16.toInt32 = z) (k : own_Go p e below Fe Q (T.setTop (mkF m pc' Ls (.int z :: st)))) : own_Go p e below Fe Q (T.setTop (mkF m pc Ls (.int x :: st))) := by
  subst hp; subst hz
  exact own_st (fun _ hr => XS.i2s X.here hx rfl hd rfl hr) k
theorem own_i2c (X : Stand p l e R s m args below meth c T locs cells slots) (hx : p.tables.exec = Jvm.exec) {x : Int32} (pc' : Nat) (hp : pc + 1 = pc') (hd : decode c.code pc = .ok (.i2c, 1)) (z : Int32) (hz : x.toUInt32.toUInt16.toUInt32.toInt32 = z) (k : own_Go p e below Fe Q (T.setTop (mkF m pc' Ls (.int z :: st)))) : own_Go p e below Fe Q (T.setTop (mkF m pc Ls (.int x :: st))) := by
  subst hp; subst hz
  exact own_st (fun _ hr => XS.i2c X.here hx rfl hd rfl hr) k
theorem own_lcmp (X : Stand p l e R s m args below meth c T locs cells slots) (hx : p.tables.exec = Jvm.exec) {x y : Int64} (pc' : Nat) (hp : pc + 1 = pc') (hd : decode c.code pc = .ok (.lcmp, 1)) (z : Int32) (hz : lcmpW x y = z) (k : own_Go p e below Fe Q (T.setTop (mkF m pc' Ls (.int z :: st)))) : own_Go p e below Fe Q (T.setTop (mkF m pc Ls (.long y :: .long x :: st))) := by
  subst hp; subst hz
  exact own_st (fun _ hr => XS.lcmp X.here hx rfl hd rfl hr) k
theorem own_i2d (X : Stand p l e R s m args below meth c T locs cells slots) (hx : p.tables.exec = Jvm.exec) {x : Int32} (pc' : Nat) (hp : pc + 1 = pc') (hd : decode c.code pc = .ok (.i2d, 1)) (z : UInt64) (hz : FP.i2d x = z) (k : own_Go p e below Fe Q (T.setTop (mkF m pc' Ls (.double z :: st)))) : own_Go p e below Fe Q (T.setTop (mkF m pc Ls (.int x :: st))) := by
  subst hp
  exact own_st (fun _ hr => XS.i2dS X.here hx rfl hd rfl hz hr) k
theorem own_l2d (X : Stand p l e R s m args below meth c T locs cells slots) (hx : p.tables.exec = Jvm.exec) {x : Int64} (pc' : Nat) (hp : pc + 1 = pc') (hd : decode c.code pc = .ok (.l2d, 1)) (z : UInt64) (hz : FP.l2d x = z) (k : own_Go p e below Fe Q (T.setTop (mkF m pc' Ls (.double z :: st)))) : own_Go p e below Fe Q (T.setTop (mkF m pc Ls (.long x :: st))) := by
  subst hp
  exact own_st (fun _ hr => XS.l2dS X.here hx rfl hd rfl hz hr) k
theorem own_d2i (X : Stand p l e R s m args below meth c T locs cells slots) (hx : p.tables.exec = Jvm.exec) {x : UInt64} (pc' : Nat) (hp : pc + 1 = pc') (hd : decode c.code pc = .ok (.d2i, 1)) (z : Int32) (hz : FP.d2i x = z) (k : own_Go p e below Fe Q (T.setTop (mkF m pc' Ls (.int z :: st)))) : own_Go p e below Fe Q (T.setTop (mkF m pc Ls (.double x :: st))) := by
  subst hp
  exact own_st (fun _ hr => XS.d2iS X.here hx rfl hd rfl hz hr) k
theorem own_d2l (X : Stand p l e R s m args below meth c T locs cells slots) (hx : p.tables.exec = Jvm.exec) {x : UInt64} (pc' : Nat) (hp : pc + 1 = pc') (hd : decode c.code pc = .ok (.d2l, 1)) (z : Int64) (hz : FP.d2l x = z) (k : own_Go p e below Fe Q (T.setTop (mkF m pc' Ls (.long z :: st)))) : own_Go p e below Fe Q (T.setTop (mkF m pc Ls (.double x :: st))) := by
  subst hp
  exact own_st (fun _ hr => XS.d2lS X.here hx rfl hd rfl hz hr) k
theorem own_dneg (X : Stand p l e R s m args below meth c T locs cells slots) (hx : p.tables.exec = Jvm.exec) {x : UInt64} (pc' : Nat) (hp : pc + 1 = pc') (hd : decode c.code pc = .ok (.dneg, 1)) (z : UInt64) (hz : FP.dneg x = z) (k : own_Go p e below Fe Q (T.setTop (mkF m pc' Ls (.double z :: st)))) : own_Go p e below Fe Q (T.setTop (mkF m pc Ls (.double x :: st))) := by
  subst hp
  exact own_st (fun _ hr => XS.dnegS X.here hx rfl hd rfl hz hr) k
theorem own_dadd (X : Stand p l e R s m args below meth c T locs cells slots) (hx : p.tables.exec = Jvm.exec) {x y : UInt64} (pc' : Nat) (hp : pc + 1 = pc') (hd : decode c.code pc = .ok (.dadd, 1)) (hn : NoNaN64 (FP.dadd x y)) (z : UInt64) (hz : FP.dadd x y = z) (k : own_Go p e below Fe Q (T.setTop (mkF m pc' Ls (.double z :: st)))) : own_Go p e below Fe Q (T.setTop (mkF m pc Ls (.double y :: .double x :: st))) := by
  subst hp
  exact own_st (fun _ hr => XS.daddS X.here hx rfl hd rfl hn hz hr) k
theorem own_dsub (X : Stand p l e R s m args below meth c T locs cells slots) (hx : p.tables.exec = Jvm.exec) {x y : UInt64} (pc' : Nat) (hp : pc + 1 = pc') (hd : decode c.code pc = .ok (.dsub, 1)) (hn : NoNaN64 (FP.dsub x y)) (z : UInt64) (hz : FP.dsub x y = z) (k : own_Go p e below Fe Q (T.setTop (mkF m pc' Ls (.double z :: st)))) : own_Go p e below Fe Q (T.setTop (mkF m pc Ls (.double y :: .double x :: st))) := by
  subst hp
  exact own_st (fun _ hr => XS.dsubS X.here hx rfl hd rfl hn hz hr) k
theorem own_dmul (X : Stand p l e R s m args below meth c T locs cells slots) (hx : p.tables.exec = Jvm.exec) {x y : UInt64} (pc' : Nat) (hp : pc + 1 = pc') (hd : decode c.code pc = .ok (.dmul, 1)) (hn : NoNaN64 (FP.dmul x y)) (z : UInt64) (hz : FP.dmul x y = z) (k : own_Go p e below Fe Q (T.setTop (mkF m pc' Ls (.double z :: st)))) : own_Go p e below Fe Q (T.setTop (mkF m pc Ls (.double y :: .double x :: st))) := by
  subst hp
  exact own_st (fun _ hr => XS.dmulS X.here hx rfl hd rfl hn hz hr) k
theorem own_ddiv (X : Stand p l e R s m args below meth c T locs cells slots) (hx : p.tables.exec = Jvm.exec) {x y : UInt64} (pc' : Nat) (hp : pc + 1 = pc') (hd : decode c.code pc = .ok (.ddiv, 1)) (hn : NoNaN64 (FP.ddiv x y)) (z : UInt64) (hz : FP.ddiv x y = z) (k : own_Go p e below Fe Q (T.setTop (mkF m pc' Ls (.double z :: st)))) : own_Go p e below Fe Q (T.setTop (mkF m pc Ls (.double y :: .double x :: st))) := by
  subst hp
  exact own_st (fun _ hr => XS.ddivS X.here hx rfl hd rfl hn hz hr) k
theorem own_dcmp (X : Stand p l e R s m args below meth c T locs cells slots) (hx : p.tables.exec = Jvm.exec) {o : CmpOp} {x y : UInt64} (pc' : Nat) (hp : pc + 1 = pc') (hd : decode c.code pc = .ok (.dcmp o, 1)) (z : Int32) (hz : cmpValue (FP.dcmp x y) o = z) (k : own_Go p e below Fe Q (T.setTop (mkF m pc' Ls (.int z :: st)))) : own_Go p e below Fe Q (T.setTop (mkF m pc Ls (.double y :: .double x :: st))) := by
  subst hp
  exact own_st (fun _ hr => XS.dcmpS X.here hx rfl hd rfl hz hr) k
theorem own_iinc (X : Stand p l e R s m args below meth c T locs cells slots) (hx : p.tables.exec = Jvm.exec) {i : Nat} {cst : Int} {x : Int32} (pc' : Nat) (hp : pc + 3 = pc') (hd : decode c.code pc = .ok (.iinc i cst, 3)) (hl : Ls[i]? = some (.val (.int x))) (Ls' : Array Slot) (hl' : storeLocals Ls i (.int (x + Int32.ofInt cst)) = some Ls') (k : own_Go p e below Fe Q (T.setTop (mkF m pc' Ls' (st)))) : own_Go p e below Fe Q (T.setTop (mkF m pc Ls (st))) := by
  subst hp
  exact own_st (fun _ hr => XS.iinc X.here hx rfl hd hl hl' hr) k
theorem own_dup (X : Stand p l e R s m args below meth c T locs cells slots) (hx : p.tables.exec = Jvm.exec) {x : Value} (pc' : Nat) (hp : pc + 1 = pc') (hd : decode c.code pc = .ok (.dup, 1)) (hc : x.category = 1) (k : own_Go p e below Fe Q (T.setTop (mkF m pc' Ls (x :: x :: st)))) : own_Go p e below Fe Q (T.setTop (mkF m pc Ls (x :: st))) := by
  subst hp
  exact own_st (fun _ hr => XS.dup X.here hx rfl hd rfl hc hr) k
theorem own_dupX1 (X : Stand p l e R s m args below meth c T locs cells slots) (hx : p.tables.exec = Jvm.exec) {x y : Value} (pc' : Nat) (hp : pc + 1 = pc') (hd : decode c.code pc = .ok (.dup_x1, 1)) (hc : x.category = 1) (hc' : y.category = 1) (k : own_Go p e below Fe Q (T.setTop (mkF m pc' Ls (x :: y :: x :: st)))) : own_Go p e below Fe Q (T.setTop (mkF m pc Ls (x :: y :: st))) := by
  subst hp
  exact own_st (fun _ hr => XS.dupX1 X.here hx rfl hd rfl hc hc' hr) k
theorem own_pop (X : Stand p l e R s m args below meth c T locs cells slots) (hx : p.tables.exec = Jvm.exec) {x : Value} (pc' : Nat) (hp : pc + 1 = pc') (hd : decode c.code pc = .ok (.pop, 1)) (hc : x.category = 1) (k : own_Go p e below Fe Q (T.setTop (mkF m pc' Ls (st)))) : own_Go p e below Fe Q (T.setTop (mkF m pc Ls (x :: st))) := by
  subst hp
  exact own_st (fun _ hr => XS.pop X.here hx rfl hd rfl hc hr) k
theorem own_goto (X : Stand p l e R s m args below meth c T locs cells slots) (hx : p.tables.exec = Jvm.exec)  {o : Int} (pc' : Nat) (hd : decode c.code pc = .ok (.goto o, 3))  (ho : 0 ≤ (pc : Int) + o) (hp : ((pc : Int) + o).toNat = pc') (k : own_Go p e below Fe Q (T.setTop (mkF m pc' Ls (st)))) : own_Go p e below Fe Q (T.setTop (mkF m pc Ls (st))) :=
  own_st (fun _ hr => XS.goto X.here hx rfl rfl hd ho hp hr) k
theorem own_ifYes (X : Stand p l e R s m args below meth c T locs cells slots) (hx : p.tables.exec = Jvm.exec) {cd : ClassFile.Cond} {x : Int32} {o : Int} (pc' : Nat) (hd : decode c.code pc = .ok (.ifCond cd o, 3)) (hc : ifCond.holds cd x = true) (ho : 0 ≤ (pc : Int) + o) (hp : ((pc : Int) + o).toNat = pc') (k : own_Go p e below Fe Q (T.setTop (mkF m pc' Ls (st)))) : own_Go p e below Fe Q (T.setTop (mkF m pc Ls (.int x :: st))) :=
  own_st (fun _ hr => XS.ifYes X.here hx rfl rfl hd rfl hc ho hp hr) k
theorem own_icmpYes (X : Stand p l e R s m args below meth c T locs cells slots) (hx : p.tables.exec = Jvm.exec) {cd : ClassFile.Cond} {x y : Int32} {o : Int} (pc' : Nat) (hd : decode c.code pc = .ok (.if_icmp cd o, 3)) (hc : if_icmp.holds cd x y = true) (ho : 0 ≤ (pc : Int) + o) (hp : ((pc : Int) + o).toNat = pc') (k : own_Go p e below Fe Q (T.setTop (mkF m pc' Ls (st)))) : own_Go p e below Fe Q (T.setTop (mkF m pc Ls (.int y :: .int x :: st))) :=
  own_st (fun _ hr => XS.icmpYes X.here hx rfl rfl hd rfl hc ho hp hr) k
theorem own_ifnullYes (X : Stand p l e R s m args below meth c T locs cells slots) (hx : p.tables.exec = Jvm.exec)  {o : Int} (pc' : Nat) (hd : decode c.code pc = .ok (.ifnull o, 3))  (ho : 0 ≤ (pc : Int) + o) (hp : ((pc : Int) + o).toNat = pc') (k : own_Go p e below Fe Q (T.setTop (mkF m pc' Ls (st)))) : own_Go p e below Fe Q (T.setTop (mkF m pc Ls (.null :: st))) :=
  own_st (fun _ hr => XS.ifnullYes X.here hx rfl rfl hd rfl ho hp hr) k
theorem own_ifnonnullYes (X : Stand p l e R s m args below meth c T locs cells slots) (hx : p.tables.exec = Jvm.exec) {b : Addr} {o : Int} (pc' : Nat) (hd : decode c.code pc = .ok (.ifnonnull o, 3))  (ho : 0 ≤ (pc : Int) + o) (hp : ((pc : Int) + o).toNat = pc') (k : own_Go p e below Fe Q (T.setTop (mkF m pc' Ls (st)))) : own_Go p e below Fe Q (T.setTop (mkF m pc Ls (.ref b :: st))) :=
  own_st (fun _ hr => XS.ifnonnullYes X.here hx rfl rfl hd rfl ho hp hr) k
theorem own_ifNo (X : Stand p l e R s m args below meth c T locs cells slots) (hx : p.tables.exec = Jvm.exec) {cd : ClassFile.Cond} {o : Int} {x : Int32} (pc' : Nat) (hp : pc + 3 = pc') (hd : decode c.code pc = .ok (.ifCond cd o, 3)) (hc : ifCond.holds cd x = false) (k : own_Go p e below Fe Q (T.setTop (mkF m pc' Ls (st)))) : own_Go p e below Fe Q (T.setTop (mkF m pc Ls (.int x :: st))) := by
  subst hp
  exact own_st (fun _ hr => XS.ifNo X.here hx rfl hd rfl hc hr) k
theorem own_icmpNo (X : Stand p l e R s m args below meth c T locs cells slots) (hx : p.tables.exec = Jvm.exec) {cd : ClassFile.Cond} {o : Int} {x y : Int32} (pc' : Nat) (hp : pc + 3 = pc') (hd : decode c.code pc = .ok (.if_icmp cd o, 3)) (hc : if_icmp.holds cd x y = false) (k : own_Go p e below Fe Q (T.setTop (mkF m pc' Ls (st)))) : own_Go p e below Fe Q (T.setTop (mkF m pc Ls (.int y :: .int x :: st))) := by
  subst hp
  exact own_st (fun _ hr => XS.icmpNo X.here hx rfl hd rfl hc hr) k
theorem own_ifnullNo (X : Stand p l e R s m args below meth c T locs cells slots) (hx : p.tables.exec = Jvm.exec) {o : Int} {b : Addr} (pc' : Nat) (hp : pc + 3 = pc') (hd : decode c.code pc = .ok (.ifnull o, 3))  (k : own_Go p e below Fe Q (T.setTop (mkF m pc' Ls (st)))) : own_Go p e below Fe Q (T.setTop (mkF m pc Ls (.ref b :: st))) := by
  subst hp
  exact own_st (fun _ hr => XS.ifnullNo X.here hx rfl hd rfl hr) k
theorem own_ifnonnullNo (X : Stand p l e R s m args below meth c T locs cells slots) (hx : p.tables.exec = Jvm.exec) {o : Int} (pc' : Nat) (hp : pc + 3 = pc') (hd : decode c.code pc = .ok (.ifnonnull o, 3))  (k : own_Go p e below Fe Q (T.setTop (mkF m pc' Ls (st)))) : own_Go p e below Fe Q (T.setTop (mkF m pc Ls (.null :: st))) := by
  subst hp
  exact own_st (fun _ hr => XS.ifnonnullNo X.here hx rfl hd rfl hr) k
theorem own_acmp (X : Stand p l e R s m args below meth c T locs cells slots) (hx : p.tables.exec = Jvm.exec) {cd : ACond} {x y : Value} {o : Int} (same : Bool) (pc' : Nat) (hd : decode c.code pc = .ok (.if_acmp cd o, 3)) (h1 : x.isRef = true) (h2 : y.isRef = true) (hq : decide (x = y) = same) (ho : 0 ≤ (pc : Int) + o) (hp : pc' = if acV cd same = true then ((pc : Int) + o).toNat else pc + 3) (k : own_Go p e below Fe Q (T.setTop (mkF m pc' Ls st))) : own_Go p e below Fe Q (T.setTop (mkF m pc Ls (y :: x :: st))) :=
  own_st (fun _ hr => Jvm.RoadKit.acmp (g := mkF m pc Ls (y :: x :: st)) X hx rfl h1 h2 (pc0 := pc) (pc' := pc') (same := same) rfl hd rfl hq ho hp hr) k
theorem own_tsw (X : Stand p l e R s m args below meth c T locs cells slots) (hx : p.tables.exec = Jvm.exec) {dflt low high : Int} {offs : Array Int} {len : Nat} {i : Int32} {o : Int} (pc' : Nat) (hd : decode c.code pc = .ok (.tableswitch dflt low high offs, len)) (hin : ¬ (i.toInt < low ∨ i.toInt > high)) (hoff : offs[(i.toInt - low).toNat]? = some o) (ho : 0 ≤ (pc : Int) + o) (hp : ((pc : Int) + o).toNat = pc') (k : own_Go p e below Fe Q (T.setTop (mkF m pc' Ls st))) : own_Go p e below Fe Q (T.setTop (mkF m pc Ls (.int i :: st))) :=
  own_st (fun _ hr => XS.tswIn X.here hx rfl rfl hd rfl hin hoff ho hp hr) k
theorem own_ldcI (X : Stand p l e R s m args below meth c T locs cells slots) (hx : p.tables.exec = Jvm.exec) (hZ : Z.Warmed39 s.vm) {own : String} {index : Nat} (hown : s.vm.findClass own = some m.cls) {z : Int32} (w : (Jvm.Cond.constant own index z).before a0 Z = true) (pc' : Nat) (hp : pc + 2 = pc') (hd : decode c.code pc = .ok (.ldc index, 2)) (k : own_Go p e below Fe Q (T.setTop (mkF m pc' Ls (.int z :: st)))) : own_Go p e below Fe Q (T.setTop (mkF m pc Ls st)) := by
  subst hp
  exact own_st (X.ldcInt hx hown (mvT hZ w) (g := mkF m pc Ls st) rfl hd) k
theorem own_ldcWI (X : Stand p l e R s m args below meth c T locs cells slots) (hx : p.tables.exec = Jvm.exec) (hZ : Z.Warmed39 s.vm) {own : String} {index : Nat} (hown : s.vm.findClass own = some m.cls) {z : Int32} (w : (Jvm.Cond.constant own index z).before a0 Z = true) (pc' : Nat) (hp : pc + 3 = pc') (hd : decode c.code pc = .ok (.ldc_w index, 3)) (k : own_Go p e below Fe Q (T.setTop (mkF m pc' Ls (.int z :: st)))) : own_Go p e below Fe Q (T.setTop (mkF m pc Ls st)) := by
  subst hp
  exact own_st (X.ldcwInt hx hown (mvT hZ w) (g := mkF m pc Ls st) rfl hd) k
theorem own_ldcJ (X : Stand p l e R s m args below meth c T locs cells slots) (hx : p.tables.exec = Jvm.exec) (hZ : Z.Warmed39 s.vm) {own : String} {index : Nat} (hown : s.vm.findClass own = some m.cls) {z : Int64} (w : (Jvm.Cond.constantLong own index z).before a0 Z = true) (pc' : Nat) (hp : pc + 3 = pc') (hd : decode c.code pc = .ok (.ldc2_w index, 3)) (k : own_Go p e below Fe Q (T.setTop (mkF m pc' Ls (.long z :: st)))) : own_Go p e below Fe Q (T.setTop (mkF m pc Ls st)) := by
  subst hp
  exact own_st (X.ldc2Long hx hown (mvT hZ w) (g := mkF m pc Ls st) rfl hd) k
theorem own_ldcD (X : Stand p l e R s m args below meth c T locs cells slots) (hx : p.tables.exec = Jvm.exec) (hZ : Z.Warmed39 s.vm) {own : String} {index : Nat} (hown : s.vm.findClass own = some m.cls) {z : UInt64} (w : (Jvm.Cond.constantDouble own index z).before a0 Z = true) (pc' : Nat) (hp : pc + 3 = pc') (hd : decode c.code pc = .ok (.ldc2_w index, 3)) (k : own_Go p e below Fe Q (T.setTop (mkF m pc' Ls (.double z :: st)))) : own_Go p e below Fe Q (T.setTop (mkF m pc Ls st)) := by
  subst hp
  exact own_st (X.ldc2DoubleC hx hown (mvT hZ w) (g := mkF m pc Ls st) rfl hd) k
theorem own_getS (X : Stand p l e R s m args below meth c T locs cells slots) (hx : p.tables.exec = Jvm.exec) (hZ : Z.Warmed39 s.vm) {own R0 O n d host : String} {index : Nat} (hown : s.vm.findClass own = some m.cls) (w : (Jvm.Cond.fieldLink own index R0 n d).before a0 Z = true ∨ (Jvm.Cond.fieldLinkNest own index R0 n d host).before a0 Z = true) (via : Via Z R0 O n d) (eT : T.heap = h) {v : Value} (F : Sta Z h O n d v) (pc' : Nat) (hp : pc + 3 = pc') (hd : decode c.code pc = .ok (.getstatic index, 3))
    (k : ∀ T', Stand p l e R s m args below meth c T' locs cells slots → T'.heap = h → own_Go p e below Fe Q (T'.setTop (mkF m pc' Ls (v :: st)))) : own_Go p e below Fe Q (T.setTop (mkF m pc Ls st)) := by
  subst hp
  obtain ⟨T', X', e', st'⟩ := getS2 X hx hZ hown w via eT F (g := mkF m pc Ls st) rfl hd
  exact own_st st' (k T' X' e')
theorem own_getF (X : Stand p l e R s m args below meth c T locs cells slots) (hx : p.tables.exec = Jvm.exec) (hZ : Z.Warmed39 s.vm) {own R0 O n d host : String} {index : Nat} (hown : s.vm.findClass own = some m.cls) (w : (Jvm.Cond.fieldLink own index R0 n d).before a0 Z = true ∨ (Jvm.Cond.fieldLinkNest own index R0 n d host).before a0 Z = true) (via : Via Z R0 O n d) (eT : T.heap = h) {a : Addr} {v : Value} (F : Fld Z h a O n d v) (pc' : Nat) (hp : pc + 3 = pc') (hd : decode c.code pc = .ok (.getfield index, 3))
    (k : ∀ T', Stand p l e R s m args below meth c T' locs cells slots → T'.heap = h → own_Go p e below Fe Q (T'.setTop (mkF m pc' Ls (v :: st)))) : own_Go p e below Fe Q (T.setTop (mkF m pc Ls (.ref a :: st))) := by
  subst hp
  obtain ⟨T', X', e', st'⟩ := getF X hx hZ hown w via eT F (g := mkF m pc Ls (.ref a :: st)) rfl rfl hd
  exact own_st st' (k T' X' e')
theorem own_putF (X : Stand p l e R s m args below meth c T locs cells slots) (hx : p.tables.exec = Jvm.exec) (hZ : Z.Warmed39 s.vm) {own R0 O n d host C : String} {index kk : Nat} {ty : FieldType} (hown : s.vm.findClass own = some m.cls) (w : (Jvm.Cond.fieldLink own index R0 n d).before a0 Z = true ∨ (Jvm.Cond.fieldLinkNest own index R0 n d host).before a0 Z = true) (via : Via Z R0 O n d) (eT : T.heap = h) {a : Addr} {v old : Value} (F : Fld Z h a O n d old) (E : Exa Z h a C)
    (L : (Jvm.Cond.lays C O n d).before a0 Z = true ∨ ((Jvm.Cond.laysFinal C O n d).before a0 Z = true ∧ own = O ∧ meth.name = "<init>")) (wi : (Jvm.Cond.instantiable C kk).before a0 Z = true) (hty : parseFieldDescriptor d = some ty) (hn : narrow ty v = v) (hf : Jvm.fits ty v = true) (pc' : Nat) (hp : pc + 3 = pc') (hd : decode c.code pc = .ok (.putfield index, 3))
    (k : ∀ T' h', Stand p l e R s m args below meth c T' (locs ++ [⟨a, Jvm.RoadKit.slotOf Z O n d⟩]) cells slots → T'.heap = h' → Wr h h' a (Jvm.RoadKit.slotOf Z O n d) v → own_Go p e below Fe Q (T'.setTop (mkF m pc' Ls st))) : own_Go p e below Fe Q (T.setTop (mkF m pc Ls (v :: .ref a :: st))) := by
  subst hp
  obtain ⟨T', h', X', e', W', st'⟩ := putF X hx hZ hown w via eT F E L wi hty hn hf (g := mkF m pc Ls (v :: .ref a :: st)) rfl rfl hd
  exact own_st st' (k T' h' X' e' W')
theorem own_putFN (X : Stand p l e R s m args below meth c T locs cells slots) (hx : p.tables.exec = Jvm.exec) (hZ : Z.Warmed39 s.vm) {own R0 O n d C : String} {index kk : Nat} {ty : FieldType} (hown : s.vm.findClass own = some m.cls) (w : (Jvm.Cond.fieldLink own index R0 n d).before a0 Z = true) (via : Via Z R0 O n d) (eT : T.heap = h) {a : Addr} {v v' old : Value} (F : Fld Z h a O n d old) (E : Exa Z h a C)
    (L : (Jvm.Cond.lays C O n d).before a0 Z = true ∨ ((Jvm.Cond.laysFinal C O n d).before a0 Z = true ∧ own = O ∧ meth.name = "<init>")) (wi : (Jvm.Cond.instantiable C kk).before a0 Z = true) (hty : parseFieldDescriptor d = some ty) (hn : narrow ty v = v') (hf : Jvm.fits ty v' = true) (pc' : Nat) (hp : pc + 3 = pc') (hd : decode c.code pc = .ok (.putfield index, 3))
    (k : ∀ T' h', Stand p l e R s m args below meth c T' (locs ++ [⟨a, Jvm.RoadKit.slotOf Z O n d⟩]) cells slots → T'.heap = h' → Wr h h' a (Jvm.RoadKit.slotOf Z O n d) v' → own_Go p e below Fe Q (T'.setTop (mkF m pc' Ls st))) : own_Go p e below Fe Q (T.setTop (mkF m pc Ls (v :: .ref a :: st))) := by
  subst hp
  obtain ⟨T', h', X', e', W', st'⟩ := putFN X hx hZ hown w via eT F E L wi hty hn hf (g := mkF m pc Ls (v :: .ref a :: st)) rfl rfl hd
  exact own_st st' (k T' h' X' e' W')
theorem own_new (X : Stand p l e R s m args below meth c T locs cells slots) (hx : p.tables.exec = Jvm.exec) (hZ : Z.Warmed39 s.vm) {own C : String} {index n : Nat} (hown : s.vm.findClass own = some m.cls) (w : (Jvm.Cond.classLink own index C).before a0 Z = true) (wi : (Jvm.Cond.instantiable C n).before a0 Z = true) (wz : (Jvm.Cond.initialized C).before a0 Z = true) (eT : T.heap = h) (pc' : Nat) (hp : pc + 3 = pc') (hd : decode c.code pc = .ok (.new index, 3)) (hc : cells + 1 ≤ R.cells) (hl : slots + n ≤ R.slots)
    (k : ∀ T' h' b, b = h.size → Stand p l e R s m args below meth c T' locs (cells + 1) (slots + n) → T'.heap = h' → Ext h h' → Exa Z h' b C → (∀ {O nm d : String} {ty : FieldType}, Laid Z a0 C O nm d → parseFieldDescriptor d = some ty → Fld Z h' b O nm d (defaultValue ty)) → own_Go p e below Fe Q (T'.setTop (mkF m pc' Ls (.ref b :: st)))) : own_Go p e below Fe Q (T.setTop (mkF m pc Ls st)) := by
  subst hp
  obtain ⟨T', h', X', e', E', A', D', -, st'⟩ := newO X hx hZ hown w wi wz eT (g := mkF m pc Ls st) rfl hd hc hl
  exact own_st st' (k T' h' _ rfl X' e' E' A' D')
theorem own_newA (X : Stand p l e R s m args below meth c T locs cells slots) (hx : p.tables.exec = Jvm.exec) (hZ : Z.Warmed39 s.vm) {aty : ArrayType} (w : (Jvm.Cond.arrayClass (newarray.typeOf aty)).before a0 Z = true) (eT : T.heap = h) {n : Int32} (pc' : Nat) (hp : pc + 2 = pc') (hd : decode c.code pc = .ok (.newarray aty, 2)) (hn : ¬ n < 0) (cap : Nat) (hcap : n.toNatClampNeg ≤ cap) (hb : cap * 8 ≤ 536870912) (hc : cells + 1 ≤ R.cells) (hl : slots + cap ≤ R.slots) (ad : String) (had : "[" ++ (newarray.typeOf aty).toString = ad)
    (k : ∀ T' h' cA b, b = h.size → Stand p l e R s m args below meth c T' locs (cells + 1) (slots + cap) → T'.heap = h' → Ext h h' → Arr Z h' b (newA cA (newarray.typeOf aty) n) (newarray.typeOf aty) → Exa Z h' b ad → own_Go p e below Fe Q (T'.setTop (mkF m pc' Ls (.ref b :: st)))) : own_Go p e below Fe Q (T.setTop (mkF m pc Ls (.int n :: st))) := by
  subst hp
  obtain ⟨T', h', cA, X', e', E', A', C', st'⟩ := newPE X hx hZ w eT (g := mkF m pc Ls (.int n :: st)) rfl hd rfl hn hcap hb hc hl had
  exact own_st st' (k T' h' cA _ rfl X' e' E' A' C')
theorem own_stI (X : Stand p l e R s m args below meth c T locs cells slots) (hx : p.tables.exec = Jvm.exec) (hZ : Z.Warmed39 s.vm) (eT : T.heap = h) {a : Addr} {kA : ClassId} {n : Int32} {vs : List Value} {dv : Value} (F : Arv Z h a kA .int n vs dv) {j : Int32} {x : Int32} (hj : ¬ j < 0 ∧ j < n) (i : Nat) (hi : j.toNatClampNeg = i) (hl : i < vs.length) (vs' : List Value) (hvs : vs.set i (.int x) = vs') (pc' : Nat) (hp : pc + 1 = pc') (hd : decode c.code pc = .ok (.iastore, 1))
    (k : ∀ T' h', Stand p l e R s m args below meth c T' (locs ++ [⟨a, j.toNatClampNeg⟩]) cells slots → T'.heap = h' → Wr h h' a j.toNatClampNeg (.int x) → Arv Z h' a kA .int n vs' dv → own_Go p e below Fe Q (T'.setTop (mkF m pc' Ls st))) : own_Go p e below Fe Q (T.setTop (mkF m pc Ls (.int x :: .int j :: .ref a :: st))) := by
  subst hp; subst hvs
  obtain ⟨cl, Ar, q, S, N1, H, G⟩ := F
  have hin := inb_of S hj
  obtain ⟨T', h', X', e', W', st'⟩ := stI X hx hZ eT Ar (j := j) hin (g := mkF m pc Ls (.int x :: .int j :: .ref a :: st)) rfl rfl hd
  exact own_st st' (k T' h' X' e' W' (Arv.set Ar q S N1 H G rfl W' i hi hl))
theorem own_stJ (X : Stand p l e R s m args below meth c T locs cells slots) (hx : p.tables.exec = Jvm.exec) (hZ : Z.Warmed39 s.vm) (eT : T.heap = h) {a : Addr} {kA : ClassId} {n : Int32} {vs : List Value} {dv : Value} (F : Arv Z h a kA .long n vs dv) {j : Int32} {x : Int64} (hj : ¬ j < 0 ∧ j < n) (i : Nat) (hi : j.toNatClampNeg = i) (hl : i < vs.length) (vs' : List Value) (hvs : vs.set i (.long x) = vs') (pc' : Nat) (hp : pc + 1 = pc') (hd : decode c.code pc = .ok (.lastore, 1))
    (k : ∀ T' h', Stand p l e R s m args below meth c T' (locs ++ [⟨a, j.toNatClampNeg⟩]) cells slots → T'.heap = h' → Wr h h' a j.toNatClampNeg (.long x) → Arv Z h' a kA .long n vs' dv → own_Go p e below Fe Q (T'.setTop (mkF m pc' Ls st))) : own_Go p e below Fe Q (T.setTop (mkF m pc Ls (.long x :: .int j :: .ref a :: st))) := by
  subst hp; subst hvs
  obtain ⟨cl, Ar, q, S, N1, H, G⟩ := F
  have hin := inb_of S hj
  obtain ⟨T', h', X', e', W', st'⟩ := stJ X hx hZ eT Ar (j := j) hin (g := mkF m pc Ls (.long x :: .int j :: .ref a :: st)) rfl rfl hd
  exact own_st st' (k T' h' X' e' W' (Arv.set Ar q S N1 H G rfl W' i hi hl))
theorem own_stD (X : Stand p l e R s m args below meth c T locs cells slots) (hx : p.tables.exec = Jvm.exec) (hZ : Z.Warmed39 s.vm) (eT : T.heap = h) {a : Addr} {kA : ClassId} {n : Int32} {vs : List Value} {dv : Value} (F : Arv Z h a kA .double n vs dv) {j : Int32} {x : UInt64} (hj : ¬ j < 0 ∧ j < n) (i : Nat) (hi : j.toNatClampNeg = i) (hl : i < vs.length) (vs' : List Value) (hvs : vs.set i (.double x) = vs') (pc' : Nat) (hp : pc + 1 = pc') (hd : decode c.code pc = .ok (.dastore, 1))
    (k : ∀ T' h', Stand p l e R s m args below meth c T' (locs ++ [⟨a, j.toNatClampNeg⟩]) cells slots → T'.heap = h' → Wr h h' a j.toNatClampNeg (.double x) → Arv Z h' a kA .double n vs' dv → own_Go p e below Fe Q (T'.setTop (mkF m pc' Ls st))) : own_Go p e below Fe Q (T.setTop (mkF m pc Ls (.double x :: .int j :: .ref a :: st))) := by
  subst hp; subst hvs
  obtain ⟨cl, Ar, q, S, N1, H, G⟩ := F
  have hin := inb_of S hj
  obtain ⟨T', h', X', e', W', st'⟩ := stD X hx hZ eT Ar (j := j) hin (g := mkF m pc Ls (.double x :: .int j :: .ref a :: st)) rfl rfl hd
  exact own_st st' (k T' h' X' e' W' (Arv.set Ar q S N1 H G rfl W' i hi hl))
theorem own_stB (X : Stand p l e R s m args below meth c T locs cells slots) (hx : p.tables.exec = Jvm.exec) (hZ : Z.Warmed39 s.vm) (eT : T.heap = h) {a : Addr} {kA : ClassId} {n : Int32} {vs : List Value} {dv : Value} (F : Arv Z h a kA .byte n vs dv) {j : Int32} {x : Int32} (hj : ¬ j < 0 ∧ j < n) (i : Nat) (hi : j.toNatClampNeg = i) (hl : i < vs.length) (vs' : List Value) (hvs : vs.set i (.int x.toInt8.toInt32) = vs') (pc' : Nat) (hp : pc + 1 = pc') (hd : decode c.code pc = .ok (.bastore, 1))
    (k : ∀ T' h', Stand p l e R s m args below meth c T' (locs ++ [⟨a, j.toNatClampNeg⟩]) cells slots → T'.heap = h' → Wr h h' a j.toNatClampNeg (.int x.toInt8.toInt32) → Arv Z h' a kA .byte n vs' dv → own_Go p e below Fe Q (T'.setTop (mkF m pc' Ls st))) : own_Go p e below Fe Q (T.setTop (mkF m pc Ls (.int x :: .int j :: .ref a :: st))) := by
  subst hp; subst hvs
  obtain ⟨cl, Ar, q, S, N1, H, G⟩ := F
  have hin := inb_of S hj
  obtain ⟨T', h', X', e', W', st'⟩ := stB X hx hZ eT Ar (j := j) hin (g := mkF m pc Ls (.int x :: .int j :: .ref a :: st)) rfl rfl hd
  exact own_st st' (k T' h' X' e' W' (Arv.set Ar q S N1 H G (fits_nar_byte x) W' i hi hl))
theorem own_stZ (X : Stand p l e R s m args below meth c T locs cells slots) (hx : p.tables.exec = Jvm.exec) (hZ : Z.Warmed39 s.vm) (eT : T.heap = h) {a : Addr} {kA : ClassId} {n : Int32} {vs : List Value} {dv : Value} (F : Arv Z h a kA .boolean n vs dv) {j : Int32} {x : Int32} (hj : ¬ j < 0 ∧ j < n) (i : Nat) (hi : j.toNatClampNeg = i) (hl : i < vs.length) (vs' : List Value) (hvs : vs.set i (.int (nar .boolean x)) = vs') (pc' : Nat) (hp : pc + 1 = pc') (hd : decode c.code pc = .ok (.bastore, 1))
    (k : ∀ T' h', Stand p l e R s m args below meth c T' (locs ++ [⟨a, j.toNatClampNeg⟩]) cells slots → T'.heap = h' → Wr h h' a j.toNatClampNeg (.int (nar .boolean x)) → Arv Z h' a kA .boolean n vs' dv → own_Go p e below Fe Q (T'.setTop (mkF m pc' Ls st))) : own_Go p e below Fe Q (T.setTop (mkF m pc Ls (.int x :: .int j :: .ref a :: st))) := by
  subst hp; subst hvs
  obtain ⟨cl, Ar, q, S, N1, H, G⟩ := F
  have hin := inb_of S hj
  obtain ⟨T', h', X', e', W', st'⟩ := stZ X hx hZ eT Ar (j := j) hin (g := mkF m pc Ls (.int x :: .int j :: .ref a :: st)) rfl rfl hd
  exact own_st st' (k T' h' X' e' W' (Arv.set Ar q S N1 H G (fits_nar_bool x) W' i hi hl))
theorem own_stC (X : Stand p l e R s m args below meth c T locs cells slots) (hx : p.tables.exec = Jvm.exec) (hZ : Z.Warmed39 s.vm) (eT : T.heap = h) {a : Addr} {kA : ClassId} {n : Int32} {vs : List Value} {dv : Value} (F : Arv Z h a kA .char n vs dv) {j : Int32} {x : Int32} (hj : ¬ j < 0 ∧ j < n) (i : Nat) (hi : j.toNatClampNeg = i) (hl : i < vs.length) (vs' : List Value) (hvs : vs.set i (.int (nar .char x)) = vs') (pc' : Nat) (hp : pc + 1 = pc') (hd : decode c.code pc = .ok (.castore, 1))
    (k : ∀ T' h', Stand p l e R s m args below meth c T' (locs ++ [⟨a, j.toNatClampNeg⟩]) cells slots → T'.heap = h' → Wr h h' a j.toNatClampNeg (.int (nar .char x)) → Arv Z h' a kA .char n vs' dv → own_Go p e below Fe Q (T'.setTop (mkF m pc' Ls st))) : own_Go p e below Fe Q (T.setTop (mkF m pc Ls (.int x :: .int j :: .ref a :: st))) := by
  subst hp; subst hvs
  obtain ⟨cl, Ar, q, S, N1, H, G⟩ := F
  have hin := inb_of S hj
  obtain ⟨T', h', X', e', W', st'⟩ := stC X hx hZ eT Ar (j := j) hin (g := mkF m pc Ls (.int x :: .int j :: .ref a :: st)) rfl rfl hd
  exact own_st st' (k T' h' X' e' W' (Arv.set Ar q S N1 H G (fits_nar_char x) W' i hi hl))
theorem own_ldI (X : Stand p l e R s m args below meth c T locs cells slots) (hx : p.tables.exec = Jvm.exec) (hZ : Z.Warmed39 s.vm) (eT : T.heap = h) {a : Addr} {kA : ClassId} {n : Int32} {vs : List Value} {dv : Value} (F : Arv Z h a kA .int n vs dv) {j : Int32} (hj : ¬ j < 0 ∧ j < n) (x : Int32) (hv : vs.getD j.toNatClampNeg dv = (.int x)) (pc' : Nat) (hp : pc + 1 = pc') (hd : decode c.code pc = .ok (.iaload, 1))
    (k : own_Go p e below Fe Q (T.setTop (mkF m pc' Ls (.int x :: st)))) : own_Go p e below Fe Q (T.setTop (mkF m pc Ls (.int j :: .ref a :: st))) := by
  subst hp
  obtain ⟨cl, Ar, q, S, N1, H, G⟩ := F
  have hin := inb_of S hj
  exact own_st (X.iaload hx (j := j) (v := .int x) (by rw [eT]; exact Ar.1) (State.isArrayOf_alike hZ.alike Ar.2.1) Ar.2.2 hin (Has.at H hin hv) (g := mkF m pc Ls (.int j :: .ref a :: st)) rfl rfl hd) k
theorem own_ldD (X : Stand p l e R s m args below meth c T locs cells slots) (hx : p.tables.exec = Jvm.exec) (hZ : Z.Warmed39 s.vm) (eT : T.heap = h) {a : Addr} {kA : ClassId} {n : Int32} {vs : List Value} {dv : Value} (F : Arv Z h a kA .double n vs dv) {j : Int32} (hj : ¬ j < 0 ∧ j < n) (x : UInt64) (hv : vs.getD j.toNatClampNeg dv = (.double x)) (pc' : Nat) (hp : pc + 1 = pc') (hd : decode c.code pc = .ok (.daload, 1))
    (k : own_Go p e below Fe Q (T.setTop (mkF m pc' Ls (.double x :: st)))) : own_Go p e below Fe Q (T.setTop (mkF m pc Ls (.int j :: .ref a :: st))) := by
  subst hp
  obtain ⟨cl, Ar, q, S, N1, H, G⟩ := F
  have hin := inb_of S hj
  exact own_st (X.daload hx (j := j) (v := .double x) (by rw [eT]; exact Ar.1) (State.isArrayOf_alike hZ.alike Ar.2.1) Ar.2.2 hin (Has.at H hin hv) (g := mkF m pc Ls (.int j :: .ref a :: st)) rfl rfl hd) k
theorem own_ldJ (X : Stand p l e R s m args below meth c T locs cells slots) (hx : p.tables.exec = Jvm.exec) (hZ : Z.Warmed39 s.vm) (eT : T.heap = h) {a : Addr} {kA : ClassId} {n : Int32} {vs : List Value} {dv : Value} (F : Arv Z h a kA .long n vs dv) {j : Int32} (hj : ¬ j < 0 ∧ j < n) (x : Int64) (hv : vs.getD j.toNatClampNeg dv = (.long x)) (pc' : Nat) (hp : pc + 1 = pc') (hd : decode c.code pc = .ok (.laload, 1))
    (k : own_Go p e below Fe Q (T.setTop (mkF m pc' Ls (.long x :: st)))) : own_Go p e below Fe Q (T.setTop (mkF m pc Ls (.int j :: .ref a :: st))) := by
  subst hp
  obtain ⟨cl, Ar, q, S, N1, H, G⟩ := F
  have hin := inb_of S hj
  exact own_st (X.laload hx (j := j) (v := .long x) (by rw [eT]; exact Ar.1) (State.isArrayOf_alike hZ.alike Ar.2.1) Ar.2.2 hin (Has.at H hin hv) (g := mkF m pc Ls (.int j :: .ref a :: st)) rfl rfl hd) k
theorem own_len (X : Stand p l e R s m args below meth c T locs cells slots) (hx : p.tables.exec = Jvm.exec) (hZ : Z.Warmed39 s.vm) (eT : T.heap = h) {a : Addr} {kA : ClassId} {ty : FieldType} {n : Int32} {vs : List Value} {dv : Value} (F : Arv Z h a kA ty n vs dv) (pc' : Nat) (hp : pc + 1 = pc') (hd : decode c.code pc = .ok (.arraylength, 1))
    (k : own_Go p e below Fe Q (T.setTop (mkF m pc' Ls (.int n :: st)))) : own_Go p e below Fe Q (T.setTop (mkF m pc Ls (.ref a :: st))) := by
  subst hp
  obtain ⟨cl, Ar, q, S, N1, H, G⟩ := F
  refine own_st (X.arraylength hx (by rw [eT]; exact Ar.1) (State.isArrayOf_alike hZ.alike Ar.2.1) (g := mkF m pc Ls (.ref a :: st)) rfl rfl hd) ?_
  rw [len_of S N1]
  exact k
theorem own_initO (X : Stand p l e R s m args below meth c T locs cells slots) (hx : p.tables.exec = Jvm.exec) (hZ : Z.Warmed39 s.vm) {own : String} {idx : Nat} (hown : s.vm.findClass own = some m.cls) (w1 : (Jvm.Cond.methodLink own idx Lib.objectInit).before a0 Z = true) (w2 : (Jvm.Cond.instanceMethod Lib.objectInit).before a0 Z = true) (w3 : (Jvm.Cond.code Lib.objectInit ⟨#[0xb1]⟩ 1 none).before a0 Z = true) (eT : T.heap = h) (hsize : Ls.size = c.maxLocals) {a : Addr} (pc' : Nat) (hp : pc + 3 = pc') (hd : decode c.code pc = .ok (.invokespecial idx, 3)) (hf : 1 ≤ R.frames) (W : Nat) (hW : 2 * 0 + (st.map fun v => v.category).sum ≤ W) (hl : W + 12 ≤ R.locals)
    (k : ∀ T', Stand p l e R s m args below meth c T' locs cells slots → T'.heap = h → own_Go p e below Fe Q (T'.setTop (mkF m pc' Ls st))) : own_Go p e below Fe Q (T.setTop (mkF m pc Ls (.ref a :: st))) := by
  subst hp
  obtain ⟨T', X', e', st'⟩ := initO X hx hZ hown w1 w2 w3 eT (g := mkF m pc Ls (.ref a :: st)) rfl hsize rfl hd hf hW hl
  exact own_st st' (k T' X' e')
theorem own_callS (X : Stand p l e R s m args below meth c T locs cells slots) (hx : p.tables.exec = Jvm.exec) (hZ : Z.Warmed39 s.vm) {own : String} {index : Nat} {y : MethodName} (hown : s.vm.findClass own = some m.cls) (w1 : (Jvm.Cond.methodLink own index y).before a0 Z = true) (w2 : (Jvm.Cond.static y).before a0 Z = true) (hy : y.cls ≠ "java/lang/invoke/MethodHandle" ∧ y.cls ≠ "java/lang/invoke/VarHandle") {bytes : ByteArray} {maxL : Nat} {ret : Option FieldType} {rm : Room} {as' : Array Value} {Q' : Option Value → Heap → List Loc → Prop} (hM : MetFree l y (head1 [Jvm.Cond.code y bytes maxL ret] rm) (fun a U => a = as' ∧ Z.Warmed39 U.vm ∧ U.heap = h) (fun _ _ _ _ _ => True) (fun _ U o U' => ∃ v L, o = .returned v ∧ Q' v U'.heap L ∧ FrameEnd U o U' L rm.cells rm.slots)) (wc : (Jvm.Cond.code y bytes maxL ret).before a0 Z = true) (wz : (Jvm.Cond.initialized y.cls).before a0 Z = true) (hfr : rm.frames + 1 ≤ R.frames) (eT : T.heap = h) (hsize : Ls.size = c.maxLocals) (argsL : List Value) {rest : List Value} (W : Nat) (hlo : W + (maxL + 11) + rm.locals ≤ R.locals) (hW : 2 * 0 + (rest.map fun v => v.category).sum ≤ W) (hcells : cells + rm.cells ≤ R.cells) (hslots : slots + rm.slots ≤ R.slots) (hlen : ∀ sig, parseMethodDescriptor y.desc = some sig → argsL.length = sig.parameters.length) (hst : st = argsL.reverse ++ rest) (has : argsL.toArray = as') (pc' : Nat) (hp : pc + 3 = pc') (hd : decode c.code pc = .ok (.invokestatic index, 3))
    (k : ∀ v T' Lc, Stand p l e R s m args below meth c T' (locs ++ Lc) (cells + rm.cells) (slots + rm.slots) → Q' v T'.heap Lc → own_Go p e below Fe Q (T'.setTop (mkF m pc' Ls (v.toList ++ rest)))) : own_Go p e below Fe Q (T.setTop (mkF m pc Ls st)) := by
  subst hp
  obtain ⟨v, _, ⟨T', L', k', n'⟩, -, X', ⟨Lc, hQ, l1, l2, l3⟩, st'⟩ := Jvm.LawKit.callS X hx (y := y) hown (mvT hZ w1) (mvT hZ w2) (mvT hZ wz) (mvT hZ wc) hy (backOf (W := W) hM hZ wc wz hfr hlo) (g := mkF m pc Ls st) rfl hsize (argsL := argsL) (rest := rest) hlen hst hW hd (fun _ _ => ⟨has, eT, hcells, hslots⟩)
  dsimp only [Pt.U, Pt.locs, Pt.cells, Pt.slots] at X' l1 l2 l3 st' hQ
  subst l1 l2 l3
  exact own_st st' (k v T' Lc X' hQ)
theorem own_special (X : Stand p l e R s m args below meth c T locs cells slots) (hx : p.tables.exec = Jvm.exec) (hZ : Z.Warmed39 s.vm) {own : String} {index : Nat} {y : MethodName} (hown : s.vm.findClass own = some m.cls) (hy1 : y.name = "<init>") (w1 : (Jvm.Cond.methodLink own index y).before a0 Z = true) (w2 : (Jvm.Cond.instanceMethod y).before a0 Z = true) {a : Addr} (hy : y.cls ≠ "java/lang/invoke/MethodHandle" ∧ y.cls ≠ "java/lang/invoke/VarHandle") {bytes : ByteArray} {maxL : Nat} {ret : Option FieldType} {rm : Room} {as' : Array Value} {Q' : Option Value → Heap → List Loc → Prop} (hret : ret = none) (hM : MetFree l y (head1 [Jvm.Cond.code y bytes maxL ret] rm) (fun a U => a = as' ∧ Z.Warmed39 U.vm ∧ U.heap = h) (fun _ _ _ _ _ => True) (fun _ U o U' => ∃ v L, o = .returned v ∧ Q' v U'.heap L ∧ FrameEnd U o U' L rm.cells rm.slots)) (wc : (Jvm.Cond.code y bytes maxL ret).before a0 Z = true) (wz : (Jvm.Cond.initialized y.cls).before a0 Z = true) (hfr : rm.frames + 1 ≤ R.frames) (eT : T.heap = h) (hsize : Ls.size = c.maxLocals) (argsL : List Value) {rest : List Value} (W : Nat) (hlo : W + (maxL + 11) + rm.locals ≤ R.locals) (hW : 2 * 0 + (rest.map fun v => v.category).sum ≤ W) (hcells : cells + rm.cells ≤ R.cells) (hslots : slots + rm.slots ≤ R.slots) (hlen : ∀ sig, parseMethodDescriptor y.desc = some sig → argsL.length = sig.parameters.length) (hst : st = argsL.reverse ++ .ref a :: rest) (has : (.ref a :: argsL).toArray = as') (pc' : Nat) (hp : pc + 3 = pc') (hd : decode c.code pc = .ok (.invokespecial index, 3))
    (k : ∀ v T' Lc, Stand p l e R s m args below meth c T' (locs ++ Lc) (cells + rm.cells) (slots + rm.slots) → Q' v T'.heap Lc → own_Go p e below Fe Q (T'.setTop (mkF m pc' Ls (v.toList ++ rest)))) : own_Go p e below Fe Q (T.setTop (mkF m pc Ls st)) := by
  subst hp
  obtain ⟨v, _, ⟨T', L', k', n'⟩, -, X', ⟨Lc, hQ, l1, l2, l3⟩, st'⟩ := X.specialBack hx (y := y) hy1 hown (mvT hZ w1) (mvT hZ w2) (mvT hZ (hret ▸ wc)) hy (backOf (W := W) hM hZ wc wz hfr hlo) (g := mkF m pc Ls st) rfl hsize (Steps.refl _) (a := a) (argsL := argsL) (rest := rest) hlen hst hW hd (fun _ _ => ⟨has, eT, hcells, hslots⟩)
  dsimp only [Pt.U, Pt.locs, Pt.cells, Pt.slots] at X' l1 l2 l3 st' hQ
  subst l1 l2 l3
  exact own_tr st' (k v T' Lc X' hQ)
theorem own_virtual (X : Stand p l e R s m args below meth c T locs cells slots) (hx : p.tables.exec = Jvm.exec) (hZ : Z.Warmed39 s.vm) {own : String} {index : Nat} {C : String} {y z : MethodName} (hown : s.vm.findClass own = some m.cls) (w1 : (Jvm.Cond.methodLink own index y).before a0 Z = true) (w2 : (Jvm.Cond.declares y).before a0 Z = true) (w3 : (Jvm.Cond.selects C y z).before a0 Z = true) (w4 : (Jvm.Cond.instanceMethod z).before a0 Z = true) (hyz : y = z) {a : Addr} (E : Exa Z h a C) (hy : y.cls ≠ "java/lang/invoke/MethodHandle" ∧ y.cls ≠ "java/lang/invoke/VarHandle") {bytes : ByteArray} {maxL : Nat} {ret : Option FieldType} {rm : Room} {as' : Array Value} {Q' : Option Value → Heap → List Loc → Prop} (hM : MetFree l z (head1 [Jvm.Cond.code z bytes maxL ret] rm) (fun a U => a = as' ∧ Z.Warmed39 U.vm ∧ U.heap = h) (fun _ _ _ _ _ => True) (fun _ U o U' => ∃ v L, o = .returned v ∧ Q' v U'.heap L ∧ FrameEnd U o U' L rm.cells rm.slots)) (wc : (Jvm.Cond.code z bytes maxL ret).before a0 Z = true) (wz : (Jvm.Cond.initialized z.cls).before a0 Z = true) (hfr : rm.frames + 1 ≤ R.frames) (eT : T.heap = h) (hsize : Ls.size = c.maxLocals) (argsL : List Value) {rest : List Value} (W : Nat) (hlo : W + (maxL + 11) + rm.locals ≤ R.locals) (hW : 2 * 0 + (rest.map fun v => v.category).sum ≤ W) (hcells : cells + rm.cells ≤ R.cells) (hslots : slots + rm.slots ≤ R.slots) (hlen : ∀ sig, parseMethodDescriptor y.desc = some sig → argsL.length = sig.parameters.length) (hst : st = argsL.reverse ++ .ref a :: rest) (has : (.ref a :: argsL).toArray = as') (pc' : Nat) (hp : pc + 3 = pc') (hd : decode c.code pc = .ok (.invokevirtual index, 3))
    (k : ∀ v T' Lc, Stand p l e R s m args below meth c T' (locs ++ Lc) (cells + rm.cells) (slots + rm.slots) → Q' v T'.heap Lc → own_Go p e below Fe Q (T'.setTop (mkF m pc' Ls (v.toList ++ rest)))) : own_Go p e below Fe Q (T.setTop (mkF m pc Ls st)) := by
  subst hp
  obtain ⟨cB, kB, qa, qb, qc⟩ := isOf hZ eT E
  obtain ⟨v, _, ⟨T', L', k', n'⟩, -, X', ⟨Lc, hQ, l1, l2, l3⟩, st'⟩ := X.virtualBack hx (y := y) (z := z) hown (mvT hZ w1) (mvT hZ w2) (hyz ▸ notFace_of_selects (args := #[]) (mvT hZ (hyz ▸ w3 : (Jvm.Cond.selects C z z).before a0 Z = true))) (mvT hZ w3) (mvT hZ w4) hy (backOf (W := W) hM hZ wc wz hfr hlo) qa qc (g := mkF m pc Ls st) rfl hsize (Steps.refl _) (argsL := argsL) (rest := rest) hlen hst hW hd (fun _ _ => ⟨has, eT, hcells, hslots⟩)
  dsimp only [Pt.U, Pt.locs, Pt.cells, Pt.slots] at X' l1 l2 l3 st' hQ
  subst l1 l2 l3
  exact own_tr st' (k v T' Lc X' hQ)
theorem own_virtualUp (X : Stand p l e R s m args below meth c T locs cells slots) (hx : p.tables.exec = Jvm.exec) (hZ : Z.Warmed39 s.vm) {own : String} {index : Nat} {C owner : String} {x y : MethodName} (hown : s.vm.findClass own = some m.cls) (w1 : (Jvm.Cond.methodLink own index x).before a0 Z = true) (w2 : (Jvm.Cond.sameMethod x.cls owner x.name x.desc).before a0 Z = true) (w2' : (Jvm.Cond.declares ⟨owner, x.name, x.desc⟩).before a0 Z = true) (w3 : (Jvm.Cond.selects C x y).before a0 Z = true) (w4 : (Jvm.Cond.instanceMethod y).before a0 Z = true) {a : Addr} (E : Exa Z h a C) (ho : owner ≠ "java/lang/invoke/MethodHandle" ∧ owner ≠ "java/lang/invoke/VarHandle") {bytes : ByteArray} {maxL : Nat} {ret : Option FieldType} {rm : Room} {as' : Array Value} {Q' : Option Value → Heap → List Loc → Prop} (hM : MetFree l y (head1 [Jvm.Cond.code y bytes maxL ret] rm) (fun a U => a = as' ∧ Z.Warmed39 U.vm ∧ U.heap = h) (fun _ _ _ _ _ => True) (fun _ U o U' => ∃ v L, o = .returned v ∧ Q' v U'.heap L ∧ FrameEnd U o U' L rm.cells rm.slots)) (wc : (Jvm.Cond.code y bytes maxL ret).before a0 Z = true) (wz : (Jvm.Cond.initialized y.cls).before a0 Z = true) (hfr : rm.frames + 1 ≤ R.frames) (eT : T.heap = h) (hsize : Ls.size = c.maxLocals) (argsL : List Value) {rest : List Value} (W : Nat) (hlo : W + (maxL + 11) + rm.locals ≤ R.locals) (hW : 2 * 0 + (rest.map fun v => v.category).sum ≤ W) (hcells : cells + rm.cells ≤ R.cells) (hslots : slots + rm.slots ≤ R.slots) (hlen : ∀ sig, parseMethodDescriptor x.desc = some sig → argsL.length = sig.parameters.length) (hst : st = argsL.reverse ++ .ref a :: rest) (has : (.ref a :: argsL).toArray = as') (pc' : Nat) (hp : pc + 3 = pc') (hd : decode c.code pc = .ok (.invokevirtual index, 3))
    (k : ∀ v T' Lc, Stand p l e R s m args below meth c T' (locs ++ Lc) (cells + rm.cells) (slots + rm.slots) → Q' v T'.heap Lc → own_Go p e below Fe Q (T'.setTop (mkF m pc' Ls (v.toList ++ rest)))) : own_Go p e below Fe Q (T.setTop (mkF m pc Ls st)) := by
  subst hp
  obtain ⟨cB, kB, qa, qb, qc⟩ := isOf hZ eT E
  obtain ⟨v, _, ⟨T', L', k', n'⟩, -, X', ⟨Lc, hQ, l1, l2, l3⟩, st'⟩ := X.virtualBackUp hx (x := x) (y := y) (owner := owner) hown (mvT hZ w1) (mvT hZ w2) (mvT hZ w2') ho (mvT hZ w3) (mvT hZ w4) (backOf (W := W) hM hZ wc wz hfr hlo) qa qc (g := mkF m pc Ls st) rfl hsize (Steps.refl _) (argsL := argsL) (rest := rest) hlen hst hW hd (fun _ _ => ⟨has, eT, hcells, hslots⟩)
  dsimp only [Pt.U, Pt.locs, Pt.cells, Pt.slots] at X' l1 l2 l3 st' hQ
  subst l1 l2 l3
  exact own_tr st' (k v T' Lc X' hQ)
theorem own_private (X : Stand p l e R s m args below meth c T locs cells slots) (hx : p.tables.exec = Jvm.exec) (hZ : Z.Warmed39 s.vm) {own : String} {index : Nat} {y z : MethodName} (hown : s.vm.findClass own = some m.cls) (w1 : (Jvm.Cond.methodLink own index y).before a0 Z = true) (w2 : (Jvm.Cond.instanceMethod y).before a0 Z = true) (hz : z.cls = y.cls) (w3 : (Jvm.Cond.selects z.cls z z).before a0 Z = true) (w4 : (Jvm.Cond.privateMethod y).before a0 Z = true) {a : Addr} (E : Exa Z h a y.cls) (hy : y.cls ≠ "java/lang/invoke/MethodHandle" ∧ y.cls ≠ "java/lang/invoke/VarHandle") {bytes : ByteArray} {maxL : Nat} {ret : Option FieldType} {rm : Room} {as' : Array Value} {Q' : Option Value → Heap → List Loc → Prop} (hM : MetFree l y (head1 [Jvm.Cond.code y bytes maxL ret] rm) (fun a U => a = as' ∧ Z.Warmed39 U.vm ∧ U.heap = h) (fun _ _ _ _ _ => True) (fun _ U o U' => ∃ v L, o = .returned v ∧ Q' v U'.heap L ∧ FrameEnd U o U' L rm.cells rm.slots)) (wc : (Jvm.Cond.code y bytes maxL ret).before a0 Z = true) (wz : (Jvm.Cond.initialized y.cls).before a0 Z = true) (hfr : rm.frames + 1 ≤ R.frames) (eT : T.heap = h) (hsize : Ls.size = c.maxLocals) (argsL : List Value) {rest : List Value} (W : Nat) (hlo : W + (maxL + 11) + rm.locals ≤ R.locals) (hW : 2 * 0 + (rest.map fun v => v.category).sum ≤ W) (hcells : cells + rm.cells ≤ R.cells) (hslots : slots + rm.slots ≤ R.slots) (hlen : ∀ sig, parseMethodDescriptor y.desc = some sig → argsL.length = sig.parameters.length) (hst : st = argsL.reverse ++ .ref a :: rest) (has : (.ref a :: argsL).toArray = as') (pc' : Nat) (hp : pc + 3 = pc') (hd : decode c.code pc = .ok (.invokevirtual index, 3))
    (k : ∀ v T' Lc, Stand p l e R s m args below meth c T' (locs ++ Lc) (cells + rm.cells) (slots + rm.slots) → Q' v T'.heap Lc → own_Go p e below Fe Q (T'.setTop (mkF m pc' Ls (v.toList ++ rest)))) : own_Go p e below Fe Q (T.setTop (mkF m pc Ls st)) := by
  subst hp
  obtain ⟨cq, q1, q2⟩ := E.cell
  have hsel : (Jvm.Cond.selects y.cls y y).before args s = true := by
    obtain ⟨c2, r2, m2, -, -, q3, -, kP, hkP, hkPi⟩ := Cond.selects_spec (mvT hZ w3 : (Jvm.Cond.selects z.cls z z).before args s = true)
    exact selects_self_of_private (hz ▸ findClass_of_methodNamed q3) hkP hkPi (Cond.privateMethod_at (mvP hZ w4 (args := #[]))) (mvT hZ w2) hy
  obtain ⟨v, _, ⟨T', L', k', n'⟩, -, X', ⟨Lc, hQ, l1, l2, l3⟩, st'⟩ := X.privateBack hx (y := y) hown (mvT hZ w1) (mvT hZ w2) hsel (Cond.privateMethod_at (mvP hZ w4 (args := #[]))) (mvT hZ wc) hy (backOf (W := W) hM hZ wc wz hfr hlo) (g := mkF m pc Ls st) rfl hsize (Steps.refl _) (a := a) (by rw [eT]; exact q1) q2 (argsL := argsL) (rest := rest) hlen hst hW hd (fun _ _ => ⟨has, eT, hcells, hslots⟩)
  dsimp only [Pt.U, Pt.locs, Pt.cells, Pt.slots] at X' l1 l2 l3 st' hQ
  subst l1 l2 l3
  exact own_tr st' (k v T' Lc X' hQ)
theorem own_rawbits (X : Stand p l e R s m args below meth c T locs cells slots) (hx : p.tables.exec = Jvm.exec) (hZ : Z.Warmed39 s.vm) {own : String} {index : Nat} (hown : s.vm.findClass own = some m.cls) (w1 : (Jvm.Cond.methodLink own index doubleToRawLongBitsName).before a0 Z = true) (w2 : (Jvm.Cond.native doubleToRawLongBitsName).before a0 Z = true) (w3 : (Jvm.Cond.static doubleToRawLongBitsName).before a0 Z = true) (w4 : (Jvm.Cond.initialized "java/lang/Double").before a0 Z = true) (eT : T.heap = h) (hsize : Ls.size = c.maxLocals) {b : UInt64} (pc' : Nat) (hp : pc + 3 = pc') (hd : decode c.code pc = .ok (.invokestatic index, 3)) (hf : 1 ≤ R.frames) (W : Nat) (hW : 2 * 0 + (st.map fun v => v.category).sum ≤ W) (hl : W + 15 ≤ R.locals)
    (k : ∀ T', Stand p l e R s m args below meth c T' locs cells slots → T'.heap = h → own_Go p e below Fe Q (T'.setTop (mkF m pc' Ls (.long b.toInt64 :: st)))) : own_Go p e below Fe Q (T.setTop (mkF m pc Ls (.double b :: st))) := by
  subst hp
  obtain ⟨vm', X', st'⟩ := X.doubleToRawLongBits hx hown (mvT hZ w1) (mvT hZ w2) (mvT hZ w3) (mvT hZ w4) (g := mkF m pc Ls (.double b :: st)) rfl hsize (rest := st) (b := b) rfl hd hf (Nat.le_trans (Nat.add_le_add_right hW _) hl)
  exact own_st st' (k _ X' eT)
end OwnSteps
section OwnX
variable {p : Program} {l : Launch} {e : Env} {R : Room} {s : State} {m : MethodId} {args : Array Value} {below : List Frame} {meth : Method} {c : Code} {T : State} {locs : List Loc} {cells slots : Nat} {Fe : Outcome → State → List Loc → Prop} {Q : Option Value → Heap → List Loc → Prop} {pc : Nat} {Ls : Array Slot} {st : List Value} {Z : State} {a0 : Array Value} {h : Heap}
/-- Math.abs of a double that is no NaN -/
theorem own_absD (X : Stand p l e R s m args below meth c T locs cells slots) (hx : p.tables.exec = Jvm.exec) (hZ : Z.Warmed39 s.vm) {own : String} {index : Nat} (hown : s.vm.findClass own = some m.cls) (w1 : (Jvm.Cond.methodLink own index Jvm.Free.NT.mathAbs64N).before a0 Z = true) (w2 : (Jvm.Cond.static Jvm.Free.NT.mathAbs64N).before a0 Z = true) (w3 : (Jvm.Cond.initialized "java/lang/Math").before a0 Z = true) {bytes : ByteArray} (wc : (Jvm.Cond.code Jvm.Free.NT.mathAbs64N bytes 2 (some .double)).before a0 Z = true) (eT : T.heap = h) (hsize : Ls.size = c.maxLocals) {b : UInt64} (hb : NoNaN64 b) (pc' : Nat) (hp : pc + 3 = pc') (hd : decode c.code pc = .ok (.invokestatic index, 3)) (hf : 1 ≤ R.frames) (W : Nat) (hW : 2 * 0 + (st.map fun v => v.category).sum ≤ W) (hl : W + 13 ≤ R.locals)
    (k : ∀ T', Stand p l e R s m args below meth c T' locs cells slots → T'.heap = h → own_Go p e below Fe Q (T'.setTop (mkF m pc' Ls (.double (b &&& 0x7fffffffffffffff) :: st)))) : own_Go p e below Fe Q (T.setTop (mkF m pc Ls (.double b :: st))) := by
  subst hp
  obtain ⟨v, vm1, B, -, X', ⟨hB, hv⟩, st'⟩ := Jvm.LawKit.callS X hx (y := Jvm.Free.NT.mathAbs64N) hown (mvT hZ w1) (mvT hZ w2) (mvT hZ w3) (mvT hZ wc) (by decide) (Jvm.Free.NT.Abs64.pays (W := W) (mvT hZ wc) (mvT hZ w2) hf hl) (g := mkF m pc Ls (.double b :: st)) rfl hsize (argsL := [.double b]) (rest := st) (lenOf Jvm.Free.NT.mathAbs64_desc rfl) rfl hW hd (fun _ _ => ⟨b, rfl, hb⟩)
  subst hB
  have hv' := hv b ⟨rfl, hb⟩
  subst hv'
  exact own_st st' (k _ X' eT)
theorem own_ldZ (X : Stand p l e R s m args below meth c T locs cells slots) (hx : p.tables.exec = Jvm.exec) (hZ : Z.Warmed39 s.vm) (eT : T.heap = h) {a : Addr} {kA : ClassId} {n : Int32} {vs : List Value} {dv : Value} (F : Arv Z h a kA .boolean n vs dv) {j : Int32} (hj : ¬ j < 0 ∧ j < n) (x : Int32) (hv : vs.getD j.toNatClampNeg dv = (.int x)) (pc' : Nat) (hp : pc + 1 = pc') (hd : decode c.code pc = .ok (.baload, 1))
    (k : own_Go p e below Fe Q (T.setTop (mkF m pc' Ls (.int x :: st)))) : own_Go p e below Fe Q (T.setTop (mkF m pc Ls (.int j :: .ref a :: st))) := by
  subst hp
  obtain ⟨cl, Ar, q, S, N1, H, G⟩ := F
  have hin := inb_of S hj
  exact own_st (X.baloadBooleans hx (j := j) (v := .int x) (by rw [eT]; exact Ar.1) (State.isArrayOf_alike hZ.alike Ar.2.1) Ar.2.2 hin (Has.at H hin hv) (g := mkF m pc Ls (.int j :: .ref a :: st)) rfl rfl hd) k
end OwnX
abbrev own_F (x : UInt64) : Prop := FP.Core.DFin x
theorem own_nf {x : UInt64} (h : own_F x) : NoNaN64 x := own_nn_of h.ne_nan
def own_J0 (t : Int) (n : Int32) (q0 q1 q2 : UInt64) : Prop := n = 0 ∧ t = 0
def own_J1 (t : Int) (n : Int32) (q0 q1 q2 : UInt64) : Prop := own_J0 t n q0 q1 q2 ∨ (n = 1 ∧ own_F q0 ∧ own_z q0 = t)
def own_J2 (t : Int) (n : Int32) (q0 q1 q2 : UInt64) : Prop := own_J1 t n q0 q1 q2 ∨ (n = 2 ∧ own_F q0 ∧ own_F q1 ∧ own_z q0 + own_z q1 = t ∧ own_z q1 = own_rn t)
def own_J3 (t : Int) (n : Int32) (q0 q1 q2 : UInt64) : Prop := own_J1 t n q0 q1 q2 ∨ (n = 2 ∧ own_F q0 ∧ own_F q1 ∧ own_z q0 + own_z q1 = t ∧ (own_z q0).natAbs ≤ 512 * own_C ∧ (own_z q1).natAbs ≤ 512 * own_C) ∨ (n = 3 ∧ own_E3 q0 q1 q2 ∧ own_z q0 + own_z q1 + own_z q2 = t)
theorem own_J01 {t : Int} {n : Int32} {q0 q1 q2 : UInt64} (h : own_J0 t n q0 q1 q2) (b : t.natAbs ≤ 2 * own_C) : own_J1 t n q0 q1 q2 := Or.inl h
theorem own_J12 {t : Int} {n : Int32} {q0 q1 q2 : UInt64} (h : own_J1 t n q0 q1 q2) (b : t.natAbs ≤ 2 * own_C) : own_J2 t n q0 q1 q2 := Or.inl h
theorem own_J23 {t : Int} {n : Int32} {q0 q1 q2 : UInt64} (h : own_J2 t n q0 q1 q2) (b : t.natAbs ≤ 3 * own_C) : own_J3 t n q0 q1 q2 := by
  rcases h with h | ⟨hn, f0, f1, hs, hr⟩
  · exact Or.inl h
  · have r := own_rn_bd (m := 3) (by decide) b
    exact Or.inr (Or.inl ⟨hn, f0, f1, hs, by omega, by omega⟩)
theorem own_h1 {v1 q0 : UInt64} (fv : own_F v1) (f0 : own_F q0) (bv : (own_z v1).natAbs ≤ own_C) (b0 : (own_z q0).natAbs ≤ 8 * own_C) : own_F (FP.dadd v1 q0) ∧ own_z (FP.dadd v1 q0) = own_rn (own_z v1 + own_z q0) ∧ (own_z (FP.dadd v1 q0)).natAbs ≤ 9 * own_C := by
  have CB := own_CB
  have e : own_z (FP.dadd v1 q0) = own_rn (own_z v1 + own_z q0) := own_dadd_rn fv f0
  refine ⟨own_dadd_fin fv f0 (by omega), e, ?_⟩
  rw [e]
  exact own_rn_bd (by decide) (by omega)
theorem own_h2 {x y : UInt64} (fx : own_F x) (fy : own_F y) (bx : (own_z x).natAbs ≤ 9 * own_C) (b2 : (own_z y).natAbs ≤ 8 * own_C) : own_F (FP.dadd x y) ∧ own_z (FP.dadd x y) = own_rn (own_z x + own_z y) ∧ (own_z (FP.dadd x y)).natAbs ≤ 17 * own_C := by
  have CB := own_CB
  have e : own_z (FP.dadd x y) = own_rn (own_z x + own_z y) := own_dadd_rn fx fy
  refine ⟨own_dadd_fin fx fy (by omega), e, ?_⟩
  rw [e]
  exact own_rn_bd (by decide) (by omega)
section OwnM
variable {v1 q0 q1 lo1 lo2 r1 r2 : UInt64}
theorem own_m1a (hh : own_F (FP.dadd v1 q0) ∧ own_z (FP.dadd v1 q0) = own_rn (own_z v1 + own_z q0) ∧ (own_z (FP.dadd v1 q0)).natAbs ≤ 9 * own_C) (hl : own_F lo1 ∧ own_z lo1 = own_z v1 + own_z q0 - own_z (FP.dadd v1 q0)) (h : own_z lo1 = 0) : own_J2 (own_z v1 + own_z q0) 1 (FP.dadd v1 q0) r1 r2 := Or.inl (Or.inr ⟨rfl, hh.1, by have := hl.2; omega⟩)
theorem own_m1b (hh : own_F (FP.dadd v1 q0) ∧ own_z (FP.dadd v1 q0) = own_rn (own_z v1 + own_z q0) ∧ (own_z (FP.dadd v1 q0)).natAbs ≤ 9 * own_C) (hl : own_F lo1 ∧ own_z lo1 = own_z v1 + own_z q0 - own_z (FP.dadd v1 q0)) : own_J2 (own_z v1 + own_z q0) 2 lo1 (FP.dadd v1 q0) r2 := Or.inr ⟨rfl, hl.1, hh.1, by have := hl.2; omega, hh.2.1⟩
theorem own_m2a (fv : own_F v1) (f0 : own_F q0) (f1 : own_F q1) (bv : (own_z v1).natAbs ≤ own_C) (b0 : (own_z q0).natAbs ≤ 8 * own_C) (b1 : (own_z q1).natAbs ≤ 8 * own_C) (hl1 : own_F lo1 ∧ own_z lo1 = own_z v1 + own_z q0 - own_z (FP.dadd v1 q0)) (hl2 : own_F lo2 ∧ own_z lo2 = own_z (FP.dadd v1 q0) + own_z q1 - own_z (FP.dadd (FP.dadd v1 q0) q1)) (h1 : own_z lo1 = 0) (h2 : own_z lo2 = 0) : own_J3 (own_z v1 + own_z q0 + own_z q1) 1 (FP.dadd (FP.dadd v1 q0) q1) r1 r2 := by
  have k1 := own_h1 fv f0 bv b0
  have k2 := own_h2 k1.1 f1 k1.2.2 b1
  refine Or.inl (Or.inr ⟨rfl, k2.1, ?_⟩)
  have e1 := hl1.2
  have e2 := hl2.2
  omega
theorem own_m2b (fv : own_F v1) (f0 : own_F q0) (f1 : own_F q1) (bv : (own_z v1).natAbs ≤ own_C) (b0 : (own_z q0).natAbs ≤ 8 * own_C) (b1 : (own_z q1).natAbs ≤ 8 * own_C) (hl1 : own_F lo1 ∧ own_z lo1 = own_z v1 + own_z q0 - own_z (FP.dadd v1 q0)) (hl2 : own_F lo2 ∧ own_z lo2 = own_z (FP.dadd v1 q0) + own_z q1 - own_z (FP.dadd (FP.dadd v1 q0) q1)) (h1 : own_z lo1 = 0) : own_J3 (own_z v1 + own_z q0 + own_z q1) 2 lo2 (FP.dadd (FP.dadd v1 q0) q1) r2 := by
  have k1 := own_h1 fv f0 bv b0
  have k2 := own_h2 k1.1 f1 k1.2.2 b1
  have e1 := hl1.2
  have e2 := hl2.2
  have u1 := k1.2.2
  have u2 := k2.2.2
  exact Or.inr (Or.inl ⟨rfl, hl2.1, k2.1, by omega, by omega, by omega⟩)
theorem own_m2c (fv : own_F v1) (f0 : own_F q0) (f1 : own_F q1) (bv : (own_z v1).natAbs ≤ own_C) (b0 : (own_z q0).natAbs ≤ 8 * own_C) (b1 : (own_z q1).natAbs ≤ 8 * own_C) (hl1 : own_F lo1 ∧ own_z lo1 = own_z v1 + own_z q0 - own_z (FP.dadd v1 q0)) (hl2 : own_F lo2 ∧ own_z lo2 = own_z (FP.dadd v1 q0) + own_z q1 - own_z (FP.dadd (FP.dadd v1 q0) q1)) (h2 : own_z lo2 = 0) : own_J3 (own_z v1 + own_z q0 + own_z q1) 2 lo1 (FP.dadd (FP.dadd v1 q0) q1) r2 := by
  have k1 := own_h1 fv f0 bv b0
  have k2 := own_h2 k1.1 f1 k1.2.2 b1
  have e1 := hl1.2
  have e2 := hl2.2
  have u1 := k1.2.2
  have u2 := k2.2.2
  exact Or.inr (Or.inl ⟨rfl, hl1.1, k2.1, by omega, by omega, by omega⟩)
theorem own_m2d (fv : own_F v1) (f0 : own_F q0) (f1 : own_F q1) (bv : (own_z v1).natAbs ≤ own_C) (b0 : (own_z q0).natAbs ≤ 8 * own_C) (b1 : (own_z q1).natAbs ≤ 8 * own_C) (hr : own_z q1 = own_rn (own_z q0 + own_z q1)) (hl1 : own_F lo1 ∧ own_z lo1 = own_z v1 + own_z q0 - own_z (FP.dadd v1 q0)) (hl2 : own_F lo2 ∧ own_z lo2 = own_z (FP.dadd v1 q0) + own_z q1 - own_z (FP.dadd (FP.dadd v1 q0) q1)) (h2 : ¬ own_z lo2 = 0) : own_J3 (own_z v1 + own_z q0 + own_z q1) 3 lo1 lo2 (FP.dadd (FP.dadd v1 q0) q1) := by
  have k1 := own_h1 fv f0 bv b0
  have k2 := own_h2 k1.1 f1 k1.2.2 b1
  have e1 := hl1.2
  have e2 := hl2.2
  have u1 := k1.2.2
  have u2 := k2.2.2
  have v2 := k2.2.1
  obtain ⟨mm, j, hm, hj, hq⟩ := own_K (own_rep_fin fv) (own_rep_fin f1) hr (by omega) (by omega) (by omega)
  rw [← k1.2.1] at hm hq
  have es : own_z lo2 + own_z (FP.dadd (FP.dadd v1 q0) q1) = own_z (FP.dadd v1 q0) + own_z q1 := by omega
  refine Or.inr (Or.inr ⟨rfl, ⟨hl1.1, hl2.1, k2.1, ?_, h2, ⟨mm, j, ?_, hj, ?_⟩, by omega, by omega, by omega⟩, by omega⟩)
  · rw [es]; exact v2
  · rw [es]; exact hm
  · rw [e1]; exact hq
end OwnM
theorem own_qb {q0 q1 : UInt64} {t : Int} (bt : t.natAbs ≤ 2 * own_C) (hs : own_z q0 + own_z q1 = t) (hr : own_z q1 = own_rn t) : (own_z q0).natAbs ≤ 8 * own_C ∧ (own_z q1).natAbs ≤ 8 * own_C ∧ own_z q1 = own_rn (own_z q0 + own_z q1) := by
  have r := own_rn_bd (m := 2) (by decide) bt
  rw [← hr] at r
  exact ⟨by omega, by omega, by rw [hs]; exact hr⟩
def own_t (f : Int32) (x : UInt64) : Int := if f = 0 then 0 else own_z x
theorem own_t0 {f : Int32} {x : UInt64} (h : f = 0) : own_t f x = 0 := if_pos h
theorem own_t1 {f : Int32} {x : UInt64} (h : ¬ f = 0) : own_t f x = own_z x := if_neg h
theorem own_tb {x : UInt64} (f : Int32) (h : (own_z x).natAbs ≤ own_C) : (own_t f x).natAbs ≤ own_C := by
  unfold own_t
  split
  · exact Nat.zero_le _
  · exact h
theorem own_bt0 : (0 : Int).natAbs ≤ 2 * own_C := Nat.zero_le _
theorem own_bt1 {x : Int} (h : x.natAbs ≤ own_C) : (0 + x).natAbs ≤ 2 * own_C := by omega
theorem own_bt2 {x y : Int} (h : x.natAbs ≤ own_C) (h' : y.natAbs ≤ own_C) : (0 + x + y).natAbs ≤ 2 * own_C := by omega
theorem own_bt3 {x y z : Int} (h : x.natAbs ≤ own_C) (h' : y.natAbs ≤ own_C) (h2 : z.natAbs ≤ own_C) : (0 + x + y + z).natAbs ≤ 3 * own_C := by omega
theorem own_bt4 {x y : Int} (h : x.natAbs ≤ 2 * own_C) (h' : y.natAbs ≤ own_C) : (x + y).natAbs ≤ 3 * own_C := by omega
theorem own_bt5 {x : Int} (h : x.natAbs ≤ 2 * own_C) : x.natAbs ≤ 3 * own_C := by omega
theorem own_posne {a : Int} (h : ¬ a < 0) (h0 : a ≠ 0) : 0 < a := by omega
theorem own_as {a b c t : Int} (h : b + c = t) : a + b + c = t + a := by omega
theorem own_nar {f : Int32} (h : f = 0 ∨ f = 1) : nar .boolean f = f := by rcases h with rfl | rfl <;> decide
theorem own_z512 {q : UInt64} {t : Int} (h : own_z q = t) (b : t.natAbs ≤ 2 * own_C) : (own_z q).natAbs ≤ 8 * own_C := by rw [h]; omega
theorem own_64 {q : UInt64} (h : (own_z q).natAbs ≤ 9 * own_C) : (own_z q).natAbs ≤ 64 * own_C := by omega
theorem own_64' {q : UInt64} (h : (own_z q).natAbs ≤ 8 * own_C) : (own_z q).natAbs ≤ 64 * own_C := by omega
theorem own_64v {q : UInt64} (h : (own_z q).natAbs ≤ own_C) : (own_z q).natAbs ≤ 64 * own_C := by omega
theorem own_pn0 : plainName "com/example/outpost/outpost/service/split/ExactSum" = true := by first | (simp [plainName, overriddenIn]; done) | decide +kernel
theorem own_ef_rm_init (m : MethodId) (o : Addr) : entryFrame m #[(.ref o)] 1 = mkF m 0 #[.val (.ref o)] [] := by first | (simp [entryFrame, mkF, argsToLocals, Value.category]; done) | rfl
def Q_rm_init (Z : State) (o : Addr) (h0 : Heap) (n0 : Nat) (v : Option Value) (h : Heap) (L : List Loc) : Prop := v = none ∧ Fr n0 L ∧ Keep h0 h [o] ∧ ∃ (a : Addr) (k : ClassId), h0.size ≤ a ∧ Exa Z h o "com/example/outpost/outpost/service/split/ExactSum" ∧ Fld Z h o "com/example/outpost/outpost/service/split/ExactSum" "parts" "[D" (.ref a) ∧ Fld Z h o "com/example/outpost/outpost/service/split/ExactSum" "count" "I" (.int (0 : Int32)) ∧ Arv Z h a k .double (4 : Int32) [(.double (0 : UInt64)), (.double (0 : UInt64)), (.double (0 : UInt64)), (.double (0 : UInt64))] (.double (0 : UInt64))
theorem own_d1_0 : decode prog_126_method_1_code 0 = .ok (.aload_n 0, 1) := by decide +kernel
theorem own_d1_1 : decode prog_126_method_1_code 1 = .ok (.invokespecial 1, 3) := by decide +kernel
theorem own_d1_4 : decode prog_126_method_1_code 4 = .ok (.aload_n 0, 1) := by decide +kernel
theorem own_d1_5 : decode prog_126_method_1_code 5 = .ok (.iconst 4, 1) := by decide +kernel
theorem own_d1_6 : decode prog_126_method_1_code 6 = .ok (.newarray .double, 2) := by decide +kernel
theorem own_d1_8 : decode prog_126_method_1_code 8 = .ok (.putfield 7, 3) := by decide +kernel
theorem own_d1_11 : decode prog_126_method_1_code 11 = .ok (.aload_n 0, 1) := by decide +kernel
theorem own_d1_12 : decode prog_126_method_1_code 12 = .ok (.iconst 0, 1) := by decide +kernel
theorem own_d1_13 : decode prog_126_method_1_code 13 = .ok (.newarray .double, 2) := by decide +kernel
theorem own_d1_15 : decode prog_126_method_1_code 15 = .ok (.putfield 13, 3) := by decide +kernel
theorem own_d1_18 : decode prog_126_method_1_code 18 = .ok (.return_, 1) := by decide +kernel
set_option maxRecDepth 65536 in
set_option maxHeartbeats 40000000 in
theorem rm_init (l : Launch) (Z : State) (a0 : Array Value) (hw : ∀ d ∈ tables_1, d.before a0 Z = true) (ws : List Jvm.Cond) (o : Addr) (h0 : Heap) (n0 : Nat) (Z0 : n0 ≤ h0.size) (E1 : Exa Z h0 o "com/example/outpost/outpost/service/split/ExactSum") (F_parts : Fld Z h0 o "com/example/outpost/outpost/service/split/ExactSum" "parts" "[D" .null) (F_count : Fld Z h0 o "com/example/outpost/outpost/service/split/ExactSum" "count" "I" (.int (0 : Int32))) (F_scratch : Fld Z h0 o "com/example/outpost/outpost/service/split/ExactSum" "scratch" "[D" .null) (g_o : n0 ≤ o) :
    MetFree l (⟨"com/example/outpost/outpost/service/split/ExactSum", "<init>", "()V"⟩ : MethodName) (head1 (Jvm.Cond.code (⟨"com/example/outpost/outpost/service/split/ExactSum", "<init>", "()V"⟩ : MethodName) prog_126_method_1_code 1 none :: ws) ({ frames := 1, cells := 2, slots := 4, locals := 12 } : Room)) (fun aa U => aa = #[(.ref o)] ∧ Z.Warmed39 U.vm ∧ U.heap = h0) (fun _ _ _ _ _ => True) (fun _ U ou U' => ∃ v L, ou = .returned v ∧ Q_rm_init Z o h0 n0 v U'.heap L ∧ FrameEnd U ou U' L ({ frames := 1, cells := 2, slots := 4, locals := 12 } : Room).cells ({ frames := 1, cells := 2, slots := 4, locals := 12 } : Room).slots) := by
  refine MetFree.of_bodySF (plainFor_of_name own_pn0) hisR ?_
  intro p e s m args below meth c s₁ Bd hml0 hP hK
  obtain ⟨rfl, hZ, hh⟩ := hP
  have hx := Bd.exec
  have hby := Bd.bytes
  have hml : c.maxLocals = 1 := hml0
  have hown : s.vm.findClass "com/example/outpost/outpost/service/split/ExactSum" = some m.cls := findClass_of_methodNamed Bd.named
  have hnm := (name_of_methodNamed Bd.named Bd.method).1
  have X0 : Stand p l e ({ frames := 1, cells := 2, slots := 4, locals := 12 } : Room) s m #[(.ref o)] below meth c s₁ [] 0 0 := Stand.of_body Bd
  have e0 : s₁.heap = h0 := by rw [← hh, Bd.state]; rfl
  have N0 := Fr.nil n0
  have K0 := Keep.refl h0 [o]
  show own_Go p e below (fun o u L => FrameEnd s o u L ({ frames := 1, cells := 2, slots := 4, locals := 12 } : Room).cells ({ frames := 1, cells := 2, slots := 4, locals := 12 } : Room).slots) (Q_rm_init Z o h0 n0) (s₁.setTop (entryFrame m #[(.ref o)] 1))
  rw [own_ef_rm_init m o]
  show own_Go _ _ _ _ _ (State.setTop _ (mkF _ 0 #[.val (.ref o)] []))
  refine own_aloadN X0 hx 1 rfl (hb hby own_d1_0) rfl rfl ?_
  refine own_initO X0 hx hZ hown (own_hw hw 8 rfl) (own_hw hw 9 rfl) (own_hw hw 10 rfl) e0 (by rw [hml]; rfl) 4 rfl (hb hby own_d1_1) (by decide) 0 (Nat.le_of_eq rfl) (by decide) fun T101 X101 e101 => ?_
  refine own_aloadN X101 hx 5 rfl (hb hby own_d1_4) rfl rfl ?_
  refine own_iconst X101 hx 6 rfl (hb hby own_d1_5) (4 : Int32) rfl ?_
  refine own_newA X101 hx hZ (own_hw hw 0 rfl) e101 8 rfl (hb hby own_d1_6) (by decide) 4 (by decide) (by decide) (by decide) (by decide) "[D" (by decide) fun T102 h102 k102 b102 g102 X102 e102 E102 A102 C102 => ?_
  have ne103 : o ≠ b102 := Nat.ne_of_lt (Nat.lt_of_lt_of_le E1.lt (Nat.le_of_eq g102.symm))
  have ge104 : n0 ≤ b102 := Nat.le_trans Z0 (Nat.le_of_eq g102.symm)
  have sz105 : h0.size ≤ b102 := Nat.le_trans K0.1 (Nat.le_of_eq g102.symm)
  have f106 := E1.ext E102
  have f107 := F_parts.ext E102
  have f108 := F_count.ext E102
  have f109 := F_scratch.ext E102
  have z110 := Nat.le_trans Z0 E102.1
  have K111 := K0.ext E102
  have f112 : Arv Z h102 b102 k102 .double (4 : Int32) [(.double (0 : UInt64)), (.double (0 : UInt64)), (.double (0 : UInt64)), (.double (0 : UInt64))] (.double (0 : UInt64)) := (Arv.new A102 (by decide)).pad (pad_rep [] (.double (0 : UInt64)) 4)
  refine own_putF X102 hx hZ (host := "") hown (Or.inl (own_hw hw 11 rfl)) Via.refl e102 f107 f106 (Or.inl (own_hw hw 12 rfl)) (own_hw hw 3 rfl) (ty := (.array .double)) (by decide) rfl rfl 11 rfl (hb hby own_d1_8) fun T113 h113 X113 e113 W113 => ?_
  have f114 := f106.wr W113
  have f115 := f108.other W113 (Or.inr (slot_ne (Or.inl (own_hw hw 25 rfl)) (Or.inl (own_hw hw 12 rfl)) (by decide) (t := .int) (t' := (.array .double)) (by decide) (by decide)))
  have f116 := f109.other W113 (Or.inr (slot_ne (Or.inl (own_hw hw 14 rfl)) (Or.inl (own_hw hw 12 rfl)) (by decide) (t := (.array .double)) (t' := (.array .double)) (by decide) (by decide)))
  have f117 := C102.wr W113
  have f118 := f112.other W113 (Ne.symm ne103)
  have z119 := Nat.le_trans z110 (Keep.of_wr W113).1
  have K120 := K111.wr W113 (Or.inl (List.mem_of_getElem? (i := 0) rfl))
  have f121 := f107.same W113
  have N122 := Fr.snoc X113 N0 g_o
  refine own_aloadN X113 hx 12 rfl (hb hby own_d1_11) rfl rfl ?_
  refine own_iconst X113 hx 13 rfl (hb hby own_d1_12) (0 : Int32) rfl ?_
  refine own_newA X113 hx hZ (own_hw hw 0 rfl) e113 15 rfl (hb hby own_d1_13) (by decide) 0 (by decide) (by decide) (by decide) (by decide) "[D" (by decide) fun T123 h123 k123 b123 g123 X123 e123 E123 A123 C123 => ?_
  have ne124 : o ≠ b123 := Nat.ne_of_lt (Nat.lt_of_lt_of_le f114.lt (Nat.le_of_eq g123.symm))
  have ne125 : b102 ≠ b123 := Nat.ne_of_lt (Nat.lt_of_lt_of_le f117.lt (Nat.le_of_eq g123.symm))
  have ge126 : n0 ≤ b123 := Nat.le_trans z119 (Nat.le_of_eq g123.symm)
  have sz127 : h0.size ≤ b123 := Nat.le_trans K120.1 (Nat.le_of_eq g123.symm)
  have f128 := f114.ext E123
  have f129 := f115.ext E123
  have f130 := f116.ext E123
  have f131 := f117.ext E123
  have f132 := f118.ext E123
  have f133 := f121.ext E123
  have z134 := Nat.le_trans z119 E123.1
  have K135 := K120.ext E123
  have f136 : Arv Z h123 b123 k123 .double (0 : Int32) [] (.double (0 : UInt64)) := Arv.new A123 (by decide)
  refine own_putF X123 hx hZ (host := "") hown (Or.inl (own_hw hw 13 rfl)) Via.refl e123 f130 f128 (Or.inl (own_hw hw 14 rfl)) (own_hw hw 3 rfl) (ty := (.array .double)) (by decide) rfl rfl 18 rfl (hb hby own_d1_15) fun T137 h137 X137 e137 W137 => ?_
  have f138 := f128.wr W137
  have f139 := f129.other W137 (Or.inr (slot_ne (Or.inl (own_hw hw 25 rfl)) (Or.inl (own_hw hw 14 rfl)) (by decide) (t := .int) (t' := (.array .double)) (by decide) (by decide)))
  have f140 := f131.wr W137
  have f141 := f132.other W137 (Ne.symm ne103)
  have f142 := f133.other W137 (Or.inr (slot_ne (Or.inl (own_hw hw 12 rfl)) (Or.inl (own_hw hw 14 rfl)) (by decide) (t := (.array .double)) (t' := (.array .double)) (by decide) (by decide)))
  have f143 := C123.wr W137
  have f144 := f136.other W137 (Ne.symm ne124)
  have z145 := Nat.le_trans z134 (Keep.of_wr W137).1
  have K146 := K135.wr W137 (Or.inl (List.mem_of_getElem? (i := 0) rfl))
  have f147 := f130.same W137
  have N148 := Fr.snoc X137 N122 g_o
  refine own_ret X137 none (fun _ => rfl) Bd.notSynchronized (by decide) (by decide) ?_ (fun fs hr => X137.returnOut hx Bd.returns (hb hby own_d1_18) hr)
  show Q_rm_init Z o h0 n0 _ T137.heap _
  rw [e137]
  exact ⟨rfl, N148, K146, b102, k102, sz105, f138, f142, f139, f141⟩
theorem own_ef_rm_add0 (m : MethodId) (a : Addr) (v1 : UInt64) : entryFrame m #[(.ref a), (.int (0 : Int32)), (.double v1)] 14 = mkF m 0 #[.val (.ref a), .val (.int (0 : Int32)), .val (.double v1), .second, .unset, .unset, .unset, .unset, .unset, .unset, .unset, .unset, .unset, .unset] [] := by first | (simp [entryFrame, mkF, argsToLocals, Value.category]; done) | rfl
def Q_rm_add0 (Z : State) (a : Addr) (k : ClassId) (v1 : UInt64) (q0 : UInt64) (q1 : UInt64) (q2 : UInt64) (q3 : UInt64) (h0 : Heap) (n0 : Nat) (v : Option Value) (h : Heap) (L : List Loc) : Prop := ∃ (cn' : Int32) (r0 r1 r2 : UInt64), v = some (.int cn') ∧ Fr n0 L ∧ Keep h0 h [a] ∧ Arv Z h a k .double (4 : Int32) [(.double r0), (.double r1), (.double r2), (.double q3)] (.double (0 : UInt64)) ∧ own_J1 (own_z v1) cn' r0 r1 r2
theorem own_d7_0 : decode prog_126_method_6_code 0 = .ok (.iconst 0, 1) := by decide +kernel
theorem own_d7_1 : decode prog_126_method_6_code 1 = .ok (.istore 4, 2) := by decide +kernel
theorem own_d7_3 : decode prog_126_method_6_code 3 = .ok (.dload_n 2, 1) := by decide +kernel
theorem own_d7_4 : decode prog_126_method_6_code 4 = .ok (.dstore 5, 2) := by decide +kernel
theorem own_d7_6 : decode prog_126_method_6_code 6 = .ok (.iconst 0, 1) := by decide +kernel
theorem own_d7_7 : decode prog_126_method_6_code 7 = .ok (.istore 7, 2) := by decide +kernel
theorem own_d7_9 : decode prog_126_method_6_code 9 = .ok (.iload 7, 2) := by decide +kernel
theorem own_d7_11 : decode prog_126_method_6_code 11 = .ok (.iload_n 1, 1) := by decide +kernel
theorem own_d7_12 : decode prog_126_method_6_code 12 = .ok (.if_icmp .ge 77, 3) := by decide +kernel
theorem own_d7_89 : decode prog_126_method_6_code 89 = .ok (.aload_n 0, 1) := by decide +kernel
theorem own_d7_90 : decode prog_126_method_6_code 90 = .ok (.iload 4, 2) := by decide +kernel
theorem own_d7_92 : decode prog_126_method_6_code 92 = .ok (.iinc 4 1, 3) := by decide +kernel
theorem own_d7_95 : decode prog_126_method_6_code 95 = .ok (.dload 5, 2) := by decide +kernel
theorem own_d7_97 : decode prog_126_method_6_code 97 = .ok (.dastore, 1) := by decide +kernel
theorem own_d7_98 : decode prog_126_method_6_code 98 = .ok (.iload 4, 2) := by decide +kernel
theorem own_d7_100 : decode prog_126_method_6_code 100 = .ok (.ireturn, 1) := by decide +kernel
set_option maxRecDepth 65536 in
set_option maxHeartbeats 40000000 in
theorem rm_add0 (l : Launch) (Z : State) (a0 : Array Value) (hw : ∀ d ∈ tables_1, d.before a0 Z = true) (ws : List Jvm.Cond) (a : Addr) (k : ClassId) (v1 : UInt64) (q0 : UInt64) (q1 : UInt64) (q2 : UInt64) (q3 : UInt64) (h0 : Heap) (n0 : Nat) (Z0 : n0 ≤ h0.size) (A1 : Arv Z h0 a k .double (4 : Int32) [(.double q0), (.double q1), (.double q2), (.double q3)] (.double (0 : UInt64))) (g_a : n0 ≤ a) (fv : own_F v1) (bv : (own_z v1).natAbs ≤ own_C) :
    MetFree l (⟨"com/example/outpost/outpost/service/split/ExactSum", "add", "([DID)I"⟩ : MethodName) (head1 (Jvm.Cond.code (⟨"com/example/outpost/outpost/service/split/ExactSum", "add", "([DID)I"⟩ : MethodName) prog_126_method_6_code 14 (some .int) :: ws) ({ frames := 0, cells := 0, slots := 0, locals := 0 } : Room)) (fun aa U => aa = #[(.ref a), (.int (0 : Int32)), (.double v1)] ∧ Z.Warmed39 U.vm ∧ U.heap = h0) (fun _ _ _ _ _ => True) (fun _ U ou U' => ∃ v L, ou = .returned v ∧ Q_rm_add0 Z a k v1 q0 q1 q2 q3 h0 n0 v U'.heap L ∧ FrameEnd U ou U' L ({ frames := 0, cells := 0, slots := 0, locals := 0 } : Room).cells ({ frames := 0, cells := 0, slots := 0, locals := 0 } : Room).slots) := by
  refine MetFree.of_bodySF (plainFor_of_name own_pn0) hisR ?_
  intro p e s m args below meth c s₁ Bd hml0 hP hK
  obtain ⟨rfl, hZ, hh⟩ := hP
  have hx := Bd.exec
  have hby := Bd.bytes
  have hml : c.maxLocals = 14 := hml0
  have hown : s.vm.findClass "com/example/outpost/outpost/service/split/ExactSum" = some m.cls := findClass_of_methodNamed Bd.named
  have hnm := (name_of_methodNamed Bd.named Bd.method).1
  have X0 : Stand p l e ({ frames := 0, cells := 0, slots := 0, locals := 0 } : Room) s m #[(.ref a), (.int (0 : Int32)), (.double v1)] below meth c s₁ [] 0 0 := Stand.of_body Bd
  have e0 : s₁.heap = h0 := by rw [← hh, Bd.state]; rfl
  have N0 := Fr.nil n0
  have K0 := Keep.refl h0 [a]
  show own_Go p e below (fun o u L => FrameEnd s o u L ({ frames := 0, cells := 0, slots := 0, locals := 0 } : Room).cells ({ frames := 0, cells := 0, slots := 0, locals := 0 } : Room).slots) (Q_rm_add0 Z a k v1 q0 q1 q2 q3 h0 n0) (s₁.setTop (entryFrame m #[(.ref a), (.int (0 : Int32)), (.double v1)] 14))
  rw [own_ef_rm_add0 m a v1]
  show own_Go _ _ _ _ _ (State.setTop _ (mkF _ 0 #[.val (.ref a), .val (.int (0 : Int32)), .val (.double v1), .second, .unset, .unset, .unset, .unset, .unset, .unset, .unset, .unset, .unset, .unset] []))
  refine own_iconst X0 hx 1 rfl (hb hby own_d7_0) (0 : Int32) rfl ?_
  refine own_istore X0 hx 3 rfl (hb hby own_d7_1) #[.val (.ref a), .val (.int (0 : Int32)), .val (.double v1), .second, .val (.int (0 : Int32)), .unset, .unset, .unset, .unset, .unset, .unset, .unset, .unset, .unset] rfl ?_
  refine own_dloadN X0 hx 4 rfl (hb hby own_d7_3) rfl ?_
  refine own_dstore X0 hx 6 rfl (hb hby own_d7_4) #[.val (.ref a), .val (.int (0 : Int32)), .val (.double v1), .second, .val (.int (0 : Int32)), .val (.double v1), .second, .unset, .unset, .unset, .unset, .unset, .unset, .unset] rfl ?_
  refine own_iconst X0 hx 7 rfl (hb hby own_d7_6) (0 : Int32) rfl ?_
  refine own_istore X0 hx 9 rfl (hb hby own_d7_7) #[.val (.ref a), .val (.int (0 : Int32)), .val (.double v1), .second, .val (.int (0 : Int32)), .val (.double v1), .second, .val (.int (0 : Int32)), .unset, .unset, .unset, .unset, .unset, .unset] rfl ?_
  refine own_iload X0 hx 11 rfl (hb hby own_d7_9) rfl ?_
  refine own_iloadN X0 hx 12 rfl (hb hby own_d7_11) rfl ?_
  refine own_icmpYes X0 hx 89 (hb hby own_d7_12) (by decide) (by decide) rfl ?_
  refine own_aloadN X0 hx 90 rfl (hb hby own_d7_89) rfl rfl ?_
  refine own_iload X0 hx 92 rfl (hb hby own_d7_90) rfl ?_
  refine own_iinc X0 hx 95 rfl (hb hby own_d7_92) rfl #[.val (.ref a), .val (.int (0 : Int32)), .val (.double v1), .second, .val (.int (1 : Int32)), .val (.double v1), .second, .val (.int (0 : Int32)), .unset, .unset, .unset, .unset, .unset, .unset] rfl ?_
  refine own_dload X0 hx 97 rfl (hb hby own_d7_95) rfl ?_
  refine own_stD X0 hx hZ e0 A1 ⟨by decide, by decide⟩ 0 rfl (Nat.le_of_ble_eq_true rfl) [(.double v1), (.double q1), (.double q2), (.double q3)] rfl 98 rfl (hb hby own_d7_97) fun T149 h149 X149 e149 W149 f150 => ?_
  have z151 := Nat.le_trans Z0 (Keep.of_wr W149).1
  have K152 := K0.wr W149 (Or.inl (List.mem_of_getElem? (i := 0) rfl))
  have N153 := Fr.snoc X149 N0 g_a
  refine own_iload X149 hx 100 rfl (hb hby own_d7_98) rfl ?_
  refine own_ret X149 (some (.int (1 : Int32))) (fun h => by rw [Bd.returns] at h; cases h) Bd.notSynchronized (by decide) (by decide) ?_ (fun fs hr => own_retI X149 hx Bd.returns (hb hby own_d7_100) hr)
  show Q_rm_add0 Z a k v1 q0 q1 q2 q3 h0 n0 _ T149.heap _
  rw [e149]
  exact ⟨_, _, _, _, rfl, N153, K152, f150, (Or.inr ⟨rfl, fv, rfl⟩)⟩
theorem own_ef_rm_add1 (m : MethodId) (a : Addr) (v1 : UInt64) : entryFrame m #[(.ref a), (.int (1 : Int32)), (.double v1)] 14 = mkF m 0 #[.val (.ref a), .val (.int (1 : Int32)), .val (.double v1), .second, .unset, .unset, .unset, .unset, .unset, .unset, .unset, .unset, .unset, .unset] [] := by first | (simp [entryFrame, mkF, argsToLocals, Value.category]; done) | rfl
def Q_rm_add1 (Z : State) (a : Addr) (k : ClassId) (v1 : UInt64) (q0 : UInt64) (q1 : UInt64) (q2 : UInt64) (q3 : UInt64) (h0 : Heap) (n0 : Nat) (v : Option Value) (h : Heap) (L : List Loc) : Prop := ∃ (cn' : Int32) (r0 r1 r2 : UInt64), v = some (.int cn') ∧ Fr n0 L ∧ Keep h0 h [a] ∧ Arv Z h a k .double (4 : Int32) [(.double r0), (.double r1), (.double r2), (.double q3)] (.double (0 : UInt64)) ∧ own_J2 (own_z v1 + own_z q0) cn' r0 r1 r2
theorem own_d7_15 : decode prog_126_method_6_code 15 = .ok (.aload_n 0, 1) := by decide +kernel
theorem own_d7_16 : decode prog_126_method_6_code 16 = .ok (.iload 7, 2) := by decide +kernel
theorem own_d7_18 : decode prog_126_method_6_code 18 = .ok (.daload, 1) := by decide +kernel
theorem own_d7_19 : decode prog_126_method_6_code 19 = .ok (.dstore 8, 2) := by decide +kernel
theorem own_d7_21 : decode prog_126_method_6_code 21 = .ok (.dload 5, 2) := by decide +kernel
theorem own_d7_23 : decode prog_126_method_6_code 23 = .ok (.dload 8, 2) := by decide +kernel
theorem own_d7_25 : decode prog_126_method_6_code 25 = .ok (.dadd, 1) := by decide +kernel
theorem own_d7_26 : decode prog_126_method_6_code 26 = .ok (.dstore 10, 2) := by decide +kernel
theorem own_d7_28 : decode prog_126_method_6_code 28 = .ok (.dload 5, 2) := by decide +kernel
theorem own_d7_30 : decode prog_126_method_6_code 30 = .ok (.invokestatic 40, 3) := by decide +kernel
theorem own_d7_33 : decode prog_126_method_6_code 33 = .ok (.dload 8, 2) := by decide +kernel
theorem own_d7_35 : decode prog_126_method_6_code 35 = .ok (.invokestatic 40, 3) := by decide +kernel
theorem own_d7_38 : decode prog_126_method_6_code 38 = .ok (.dcmp .l, 1) := by decide +kernel
theorem own_d7_61 : decode prog_126_method_6_code 61 = .ok (.dstore 12, 2) := by decide +kernel
theorem own_d7_63 : decode prog_126_method_6_code 63 = .ok (.dload 12, 2) := by decide +kernel
theorem own_d7_65 : decode prog_126_method_6_code 65 = .ok (.dconst 0, 1) := by decide +kernel
theorem own_d7_66 : decode prog_126_method_6_code 66 = .ok (.dcmp .l, 1) := by decide +kernel
theorem own_d7_67 : decode prog_126_method_6_code 67 = .ok (.ifCond .eq 12, 3) := by decide +kernel
theorem own_d7_79 : decode prog_126_method_6_code 79 = .ok (.dload 10, 2) := by decide +kernel
theorem own_d7_81 : decode prog_126_method_6_code 81 = .ok (.dstore 5, 2) := by decide +kernel
theorem own_d7_83 : decode prog_126_method_6_code 83 = .ok (.iinc 7 1, 3) := by decide +kernel
theorem own_d7_86 : decode prog_126_method_6_code 86 = .ok (.goto (-77), 3) := by decide +kernel
theorem own_d7_70 : decode prog_126_method_6_code 70 = .ok (.aload_n 0, 1) := by decide +kernel
theorem own_d7_71 : decode prog_126_method_6_code 71 = .ok (.iload 4, 2) := by decide +kernel
theorem own_d7_73 : decode prog_126_method_6_code 73 = .ok (.iinc 4 1, 3) := by decide +kernel
theorem own_d7_76 : decode prog_126_method_6_code 76 = .ok (.dload 12, 2) := by decide +kernel
theorem own_d7_78 : decode prog_126_method_6_code 78 = .ok (.dastore, 1) := by decide +kernel
theorem own_d7_39 : decode prog_126_method_6_code 39 = .ok (.ifCond .lt 14, 3) := by decide +kernel
theorem own_d7_53 : decode prog_126_method_6_code 53 = .ok (.dload 5, 2) := by decide +kernel
theorem own_d7_55 : decode prog_126_method_6_code 55 = .ok (.dload 10, 2) := by decide +kernel
theorem own_d7_57 : decode prog_126_method_6_code 57 = .ok (.dload 8, 2) := by decide +kernel
theorem own_d7_59 : decode prog_126_method_6_code 59 = .ok (.dsub, 1) := by decide +kernel
theorem own_d7_60 : decode prog_126_method_6_code 60 = .ok (.dsub, 1) := by decide +kernel
theorem own_d7_42 : decode prog_126_method_6_code 42 = .ok (.dload 8, 2) := by decide +kernel
theorem own_d7_44 : decode prog_126_method_6_code 44 = .ok (.dload 10, 2) := by decide +kernel
theorem own_d7_46 : decode prog_126_method_6_code 46 = .ok (.dload 5, 2) := by decide +kernel
theorem own_d7_48 : decode prog_126_method_6_code 48 = .ok (.dsub, 1) := by decide +kernel
theorem own_d7_49 : decode prog_126_method_6_code 49 = .ok (.dsub, 1) := by decide +kernel
theorem own_d7_50 : decode prog_126_method_6_code 50 = .ok (.goto 11, 3) := by decide +kernel
set_option maxRecDepth 65536 in
set_option maxHeartbeats 40000000 in
theorem rm_add1 (l : Launch) (Z : State) (a0 : Array Value) (hw : ∀ d ∈ tables_1, d.before a0 Z = true) (ws : List Jvm.Cond) (a : Addr) (k : ClassId) (v1 : UInt64) (q0 : UInt64) (q1 : UInt64) (q2 : UInt64) (q3 : UInt64) (h0 : Heap) (n0 : Nat) (Z0 : n0 ≤ h0.size) (A1 : Arv Z h0 a k .double (4 : Int32) [(.double q0), (.double q1), (.double q2), (.double q3)] (.double (0 : UInt64))) (g_a : n0 ≤ a) (fv : own_F v1) (bv : (own_z v1).natAbs ≤ own_C) (f0 : own_F q0) (b0 : (own_z q0).natAbs ≤ 8 * own_C) :
    MetFree l (⟨"com/example/outpost/outpost/service/split/ExactSum", "add", "([DID)I"⟩ : MethodName) (head1 (Jvm.Cond.code (⟨"com/example/outpost/outpost/service/split/ExactSum", "add", "([DID)I"⟩ : MethodName) prog_126_method_6_code 14 (some .int) :: ws) ({ frames := 1, cells := 0, slots := 0, locals := 15 } : Room)) (fun aa U => aa = #[(.ref a), (.int (1 : Int32)), (.double v1)] ∧ Z.Warmed39 U.vm ∧ U.heap = h0) (fun _ _ _ _ _ => True) (fun _ U ou U' => ∃ v L, ou = .returned v ∧ Q_rm_add1 Z a k v1 q0 q1 q2 q3 h0 n0 v U'.heap L ∧ FrameEnd U ou U' L ({ frames := 1, cells := 0, slots := 0, locals := 15 } : Room).cells ({ frames := 1, cells := 0, slots := 0, locals := 15 } : Room).slots) := by
  refine MetFree.of_bodySF (plainFor_of_name own_pn0) hisR ?_
  intro p e s m args below meth c s₁ Bd hml0 hP hK
  obtain ⟨rfl, hZ, hh⟩ := hP
  have hx := Bd.exec
  have hby := Bd.bytes
  have hml : c.maxLocals = 14 := hml0
  have hown : s.vm.findClass "com/example/outpost/outpost/service/split/ExactSum" = some m.cls := findClass_of_methodNamed Bd.named
  have hnm := (name_of_methodNamed Bd.named Bd.method).1
  have X0 : Stand p l e ({ frames := 1, cells := 0, slots := 0, locals := 15 } : Room) s m #[(.ref a), (.int (1 : Int32)), (.double v1)] below meth c s₁ [] 0 0 := Stand.of_body Bd
  have e0 : s₁.heap = h0 := by rw [← hh, Bd.state]; rfl
  have N0 := Fr.nil n0
  have K0 := Keep.refl h0 [a]
  show own_Go p e below (fun o u L => FrameEnd s o u L ({ frames := 1, cells := 0, slots := 0, locals := 15 } : Room).cells ({ frames := 1, cells := 0, slots := 0, locals := 15 } : Room).slots) (Q_rm_add1 Z a k v1 q0 q1 q2 q3 h0 n0) (s₁.setTop (entryFrame m #[(.ref a), (.int (1 : Int32)), (.double v1)] 14))
  rw [own_ef_rm_add1 m a v1]
  have hh := own_h1 fv f0 bv b0
  show own_Go _ _ _ _ _ (State.setTop _ (mkF _ 0 #[.val (.ref a), .val (.int (1 : Int32)), .val (.double v1), .second, .unset, .unset, .unset, .unset, .unset, .unset, .unset, .unset, .unset, .unset] []))
  refine own_iconst X0 hx 1 rfl (hb hby own_d7_0) (0 : Int32) rfl ?_
  refine own_istore X0 hx 3 rfl (hb hby own_d7_1) #[.val (.ref a), .val (.int (1 : Int32)), .val (.double v1), .second, .val (.int (0 : Int32)), .unset, .unset, .unset, .unset, .unset, .unset, .unset, .unset, .unset] rfl ?_
  refine own_dloadN X0 hx 4 rfl (hb hby own_d7_3) rfl ?_
  refine own_dstore X0 hx 6 rfl (hb hby own_d7_4) #[.val (.ref a), .val (.int (1 : Int32)), .val (.double v1), .second, .val (.int (0 : Int32)), .val (.double v1), .second, .unset, .unset, .unset, .unset, .unset, .unset, .unset] rfl ?_
  refine own_iconst X0 hx 7 rfl (hb hby own_d7_6) (0 : Int32) rfl ?_
  refine own_istore X0 hx 9 rfl (hb hby own_d7_7) #[.val (.ref a), .val (.int (1 : Int32)), .val (.double v1), .second, .val (.int (0 : Int32)), .val (.double v1), .second, .val (.int (0 : Int32)), .unset, .unset, .unset, .unset, .unset, .unset] rfl ?_
  refine own_iload X0 hx 11 rfl (hb hby own_d7_9) rfl ?_
  refine own_iloadN X0 hx 12 rfl (hb hby own_d7_11) rfl ?_
  refine own_icmpNo X0 hx 15 rfl (hb hby own_d7_12) (by decide) ?_
  refine own_aloadN X0 hx 16 rfl (hb hby own_d7_15) rfl rfl ?_
  refine own_iload X0 hx 18 rfl (hb hby own_d7_16) rfl ?_
  refine own_ldD X0 hx hZ e0 A1 ⟨by decide, by decide⟩ q0 rfl 19 rfl (hb hby own_d7_18) ?_
  refine own_dstore X0 hx 21 rfl (hb hby own_d7_19) #[.val (.ref a), .val (.int (1 : Int32)), .val (.double v1), .second, .val (.int (0 : Int32)), .val (.double v1), .second, .val (.int (0 : Int32)), .val (.double q0), .second, .unset, .unset, .unset, .unset] rfl ?_
  refine own_dload X0 hx 23 rfl (hb hby own_d7_21) rfl ?_
  refine own_dload X0 hx 25 rfl (hb hby own_d7_23) rfl ?_
  refine own_dadd X0 hx 26 rfl (hb hby own_d7_25) (own_nf hh.1) _ rfl ?_
  refine own_dstore X0 hx 28 rfl (hb hby own_d7_26) #[.val (.ref a), .val (.int (1 : Int32)), .val (.double v1), .second, .val (.int (0 : Int32)), .val (.double v1), .second, .val (.int (0 : Int32)), .val (.double q0), .second, .val (.double (FP.dadd v1 q0)), .second, .unset, .unset] rfl ?_
  refine own_dload X0 hx 30 rfl (hb hby own_d7_28) rfl ?_
  refine own_absD X0 hx hZ hown (own_hw hw 37 rfl) (own_hw hw 38 rfl) (own_hw hw 39 rfl) (own_hw hw 40 rfl) e0 (by rw [hml]; rfl) (own_nf fv) 33 rfl (hb hby own_d7_30) (by decide) 0 (Nat.le_of_eq rfl) (by decide) fun T154 X154 e154 => ?_
  refine own_dload X154 hx 35 rfl (hb hby own_d7_33) rfl ?_
  refine own_absD X154 hx hZ hown (own_hw hw 37 rfl) (own_hw hw 38 rfl) (own_hw hw 39 rfl) (own_hw hw 40 rfl) e154 (by rw [hml]; rfl) (own_nf f0) 38 rfl (hb hby own_d7_35) (by decide) 2 (Nat.le_of_eq rfl) (by decide) fun T155 X155 e155 => ?_
  refine own_dcmp X155 hx 39 rfl (hb hby own_d7_38) _ rfl ?_
  have Jlo1 : ∀ (lo1 : UInt64), (own_F lo1 ∧ own_z lo1 = own_z v1 + own_z q0 - own_z (FP.dadd v1 q0)) → own_Go p e below (fun o u L => FrameEnd s o u L ({ frames := 1, cells := 0, slots := 0, locals := 15 } : Room).cells ({ frames := 1, cells := 0, slots := 0, locals := 15 } : Room).slots) (Q_rm_add1 Z a k v1 q0 q1 q2 q3 h0 n0) (T155.setTop (mkF m 61 #[.val (.ref a), .val (.int (1 : Int32)), .val (.double v1), .second, .val (.int (0 : Int32)), .val (.double v1), .second, .val (.int (0 : Int32)), .val (.double q0), .second, .val (.double (FP.dadd v1 q0)), .second, .unset, .unset] [(.double lo1)])) := by
    intro lo1 hl1
    show own_Go _ _ _ _ _ (State.setTop _ (mkF _ 61 _ [(.double lo1)]))
    refine own_dstore X155 hx 63 rfl (hb hby own_d7_61) #[.val (.ref a), .val (.int (1 : Int32)), .val (.double v1), .second, .val (.int (0 : Int32)), .val (.double v1), .second, .val (.int (0 : Int32)), .val (.double q0), .second, .val (.double (FP.dadd v1 q0)), .second, .val (.double lo1), .second] rfl ?_
    refine own_dload X155 hx 65 rfl (hb hby own_d7_63) rfl ?_
    refine own_dconst0 X155 hx 66 rfl (hb hby own_d7_65) ?_
    refine own_dcmp X155 hx 67 rfl (hb hby own_d7_66) _ rfl ?_
    by_cases hc156 : cmpValue (FP.dcmp lo1 FP.dconst0) .l = 0
    ·
      have z0157 := (own_sgEq hl1.1 .l).mp hc156
      refine own_ifYes X155 hx 79 (hb hby own_d7_67) ((if0 _ _).trans (teq hc156).1) (by decide) rfl ?_
      refine own_dload X155 hx 81 rfl (hb hby own_d7_79) rfl ?_
      refine own_dstore X155 hx 83 rfl (hb hby own_d7_81) #[.val (.ref a), .val (.int (1 : Int32)), .val (.double v1), .second, .val (.int (0 : Int32)), .val (.double (FP.dadd v1 q0)), .second, .val (.int (0 : Int32)), .val (.double q0), .second, .val (.double (FP.dadd v1 q0)), .second, .val (.double lo1), .second] rfl ?_
      refine own_iinc X155 hx 86 rfl (hb hby own_d7_83) rfl #[.val (.ref a), .val (.int (1 : Int32)), .val (.double v1), .second, .val (.int (0 : Int32)), .val (.double (FP.dadd v1 q0)), .second, .val (.int (1 : Int32)), .val (.double q0), .second, .val (.double (FP.dadd v1 q0)), .second, .val (.double lo1), .second] rfl ?_
      refine own_goto X155 hx 9 (hb hby own_d7_86) (by decide) rfl ?_
      refine own_iload X155 hx 11 rfl (hb hby own_d7_9) rfl ?_
      refine own_iloadN X155 hx 12 rfl (hb hby own_d7_11) rfl ?_
      refine own_icmpYes X155 hx 89 (hb hby own_d7_12) (by decide) (by decide) rfl ?_
      refine own_aloadN X155 hx 90 rfl (hb hby own_d7_89) rfl rfl ?_
      refine own_iload X155 hx 92 rfl (hb hby own_d7_90) rfl ?_
      refine own_iinc X155 hx 95 rfl (hb hby own_d7_92) rfl #[.val (.ref a), .val (.int (1 : Int32)), .val (.double v1), .second, .val (.int (1 : Int32)), .val (.double (FP.dadd v1 q0)), .second, .val (.int (1 : Int32)), .val (.double q0), .second, .val (.double (FP.dadd v1 q0)), .second, .val (.double lo1), .second] rfl ?_
      refine own_dload X155 hx 97 rfl (hb hby own_d7_95) rfl ?_
      refine own_stD X155 hx hZ e155 A1 ⟨by decide, by decide⟩ 0 rfl (Nat.le_of_ble_eq_true rfl) [(.double (FP.dadd v1 q0)), (.double q1), (.double q2), (.double q3)] rfl 98 rfl (hb hby own_d7_97) fun T158 h158 X158 e158 W158 f159 => ?_
      have z160 := Nat.le_trans Z0 (Keep.of_wr W158).1
      have K161 := K0.wr W158 (Or.inl (List.mem_of_getElem? (i := 0) rfl))
      have N162 := Fr.snoc X158 N0 g_a
      refine own_iload X158 hx 100 rfl (hb hby own_d7_98) rfl ?_
      refine own_ret X158 (some (.int (1 : Int32))) (fun h => by rw [Bd.returns] at h; cases h) Bd.notSynchronized (by decide) (by decide) ?_ (fun fs hr => own_retI X158 hx Bd.returns (hb hby own_d7_100) hr)
      show Q_rm_add1 Z a k v1 q0 q1 q2 q3 h0 n0 _ T158.heap _
      rw [e158]
      exact ⟨_, _, _, _, rfl, N162, K161, f159, (own_m1a hh hl1 z0157)⟩
    ·
      have z0163 := fun q => hc156 ((own_sgEq hl1.1 .l).mpr q)
      refine own_ifNo X155 hx 70 rfl (hb hby own_d7_67) ((if0 _ _).trans (feq hc156).1) ?_
      refine own_aloadN X155 hx 71 rfl (hb hby own_d7_70) rfl rfl ?_
      refine own_iload X155 hx 73 rfl (hb hby own_d7_71) rfl ?_
      refine own_iinc X155 hx 76 rfl (hb hby own_d7_73) rfl #[.val (.ref a), .val (.int (1 : Int32)), .val (.double v1), .second, .val (.int (1 : Int32)), .val (.double v1), .second, .val (.int (0 : Int32)), .val (.double q0), .second, .val (.double (FP.dadd v1 q0)), .second, .val (.double lo1), .second] rfl ?_
      refine own_dload X155 hx 78 rfl (hb hby own_d7_76) rfl ?_
      refine own_stD X155 hx hZ e155 A1 ⟨by decide, by decide⟩ 0 rfl (Nat.le_of_ble_eq_true rfl) [(.double lo1), (.double q1), (.double q2), (.double q3)] rfl 79 rfl (hb hby own_d7_78) fun T164 h164 X164 e164 W164 f165 => ?_
      have z166 := Nat.le_trans Z0 (Keep.of_wr W164).1
      have K167 := K0.wr W164 (Or.inl (List.mem_of_getElem? (i := 0) rfl))
      have N168 := Fr.snoc X164 N0 g_a
      refine own_dload X164 hx 81 rfl (hb hby own_d7_79) rfl ?_
      refine own_dstore X164 hx 83 rfl (hb hby own_d7_81) #[.val (.ref a), .val (.int (1 : Int32)), .val (.double v1), .second, .val (.int (1 : Int32)), .val (.double (FP.dadd v1 q0)), .second, .val (.int (0 : Int32)), .val (.double q0), .second, .val (.double (FP.dadd v1 q0)), .second, .val (.double lo1), .second] rfl ?_
      refine own_iinc X164 hx 86 rfl (hb hby own_d7_83) rfl #[.val (.ref a), .val (.int (1 : Int32)), .val (.double v1), .second, .val (.int (1 : Int32)), .val (.double (FP.dadd v1 q0)), .second, .val (.int (1 : Int32)), .val (.double q0), .second, .val (.double (FP.dadd v1 q0)), .second, .val (.double lo1), .second] rfl ?_
      refine own_goto X164 hx 9 (hb hby own_d7_86) (by decide) rfl ?_
      refine own_iload X164 hx 11 rfl (hb hby own_d7_9) rfl ?_
      refine own_iloadN X164 hx 12 rfl (hb hby own_d7_11) rfl ?_
      refine own_icmpYes X164 hx 89 (hb hby own_d7_12) (by decide) (by decide) rfl ?_
      refine own_aloadN X164 hx 90 rfl (hb hby own_d7_89) rfl rfl ?_
      refine own_iload X164 hx 92 rfl (hb hby own_d7_90) rfl ?_
      refine own_iinc X164 hx 95 rfl (hb hby own_d7_92) rfl #[.val (.ref a), .val (.int (1 : Int32)), .val (.double v1), .second, .val (.int (2 : Int32)), .val (.double (FP.dadd v1 q0)), .second, .val (.int (1 : Int32)), .val (.double q0), .second, .val (.double (FP.dadd v1 q0)), .second, .val (.double lo1), .second] rfl ?_
      refine own_dload X164 hx 97 rfl (hb hby own_d7_95) rfl ?_
      refine own_stD X164 hx hZ e164 f165 ⟨by decide, by decide⟩ 1 rfl (Nat.le_of_ble_eq_true rfl) [(.double lo1), (.double (FP.dadd v1 q0)), (.double q2), (.double q3)] rfl 98 rfl (hb hby own_d7_97) fun T169 h169 X169 e169 W169 f170 => ?_
      have z171 := Nat.le_trans z166 (Keep.of_wr W169).1
      have K172 := K167.wr W169 (Or.inl (List.mem_of_getElem? (i := 0) rfl))
      have N173 := Fr.snoc X169 N168 g_a
      refine own_iload X169 hx 100 rfl (hb hby own_d7_98) rfl ?_
      refine own_ret X169 (some (.int (2 : Int32))) (fun h => by rw [Bd.returns] at h; cases h) Bd.notSynchronized (by decide) (by decide) ?_ (fun fs hr => own_retI X169 hx Bd.returns (hb hby own_d7_100) hr)
      show Q_rm_add1 Z a k v1 q0 q1 q2 q3 h0 n0 _ T169.heap _
      rw [e169]
      exact ⟨_, _, _, _, rfl, N173, K172, f170, (own_m1b hh hl1)⟩
  by_cases hc174 : cmpValue (FP.dcmp (v1 &&& 0x7fffffffffffffff) (q0 &&& 0x7fffffffffffffff)) .l < 0
  ·
    have kl175 := own_lowLt fv f0 (own_64v bv) (own_64' b0) (Nat.le_of_lt ((own_absLt fv f0).mp hc174))
    refine own_ifYes X155 hx 53 (hb hby own_d7_39) ((if0 _ _).trans (tlt hc174).1) (by decide) rfl ?_
    refine own_dload X155 hx 55 rfl (hb hby own_d7_53) rfl ?_
    refine own_dload X155 hx 57 rfl (hb hby own_d7_55) rfl ?_
    refine own_dload X155 hx 59 rfl (hb hby own_d7_57) rfl ?_
    refine own_dsub X155 hx 60 rfl (hb hby own_d7_59) (own_nf kl175.1) _ rfl ?_
    refine own_dsub X155 hx 61 rfl (hb hby own_d7_60) (own_nf kl175.2.1) _ rfl ?_
    exact Jlo1 _ kl175.2
  ·
    have kl176 := own_lowGe fv f0 (own_64v bv) (own_64' b0) (Nat.not_lt.mp fun q => hc174 ((own_absLt fv f0).mpr q))
    refine own_ifNo X155 hx 42 rfl (hb hby own_d7_39) ((if0 _ _).trans (flt hc174).1) ?_
    refine own_dload X155 hx 44 rfl (hb hby own_d7_42) rfl ?_
    refine own_dload X155 hx 46 rfl (hb hby own_d7_44) rfl ?_
    refine own_dload X155 hx 48 rfl (hb hby own_d7_46) rfl ?_
    refine own_dsub X155 hx 49 rfl (hb hby own_d7_48) (own_nf kl176.1) _ rfl ?_
    refine own_dsub X155 hx 50 rfl (hb hby own_d7_49) (own_nf kl176.2.1) _ rfl ?_
    refine own_goto X155 hx 61 (hb hby own_d7_50) (by decide) rfl ?_
    exact Jlo1 _ kl176.2
theorem own_ef_rm_add2 (m : MethodId) (a : Addr) (v1 : UInt64) : entryFrame m #[(.ref a), (.int (2 : Int32)), (.double v1)] 14 = mkF m 0 #[.val (.ref a), .val (.int (2 : Int32)), .val (.double v1), .second, .unset, .unset, .unset, .unset, .unset, .unset, .unset, .unset, .unset, .unset] [] := by first | (simp [entryFrame, mkF, argsToLocals, Value.category]; done) | rfl
def Q_rm_add2 (Z : State) (a : Addr) (k : ClassId) (v1 : UInt64) (q0 : UInt64) (q1 : UInt64) (q2 : UInt64) (q3 : UInt64) (h0 : Heap) (n0 : Nat) (v : Option Value) (h : Heap) (L : List Loc) : Prop := ∃ (cn' : Int32) (r0 r1 r2 : UInt64), v = some (.int cn') ∧ Fr n0 L ∧ Keep h0 h [a] ∧ Arv Z h a k .double (4 : Int32) [(.double r0), (.double r1), (.double r2), (.double q3)] (.double (0 : UInt64)) ∧ own_J3 (own_z v1 + own_z q0 + own_z q1) cn' r0 r1 r2
set_option maxRecDepth 65536 in
set_option maxHeartbeats 40000000 in
theorem rm_add2 (l : Launch) (Z : State) (a0 : Array Value) (hw : ∀ d ∈ tables_1, d.before a0 Z = true) (ws : List Jvm.Cond) (a : Addr) (k : ClassId) (v1 : UInt64) (q0 : UInt64) (q1 : UInt64) (q2 : UInt64) (q3 : UInt64) (h0 : Heap) (n0 : Nat) (Z0 : n0 ≤ h0.size) (A1 : Arv Z h0 a k .double (4 : Int32) [(.double q0), (.double q1), (.double q2), (.double q3)] (.double (0 : UInt64))) (g_a : n0 ≤ a) (fv : own_F v1) (bv : (own_z v1).natAbs ≤ own_C) (f0 : own_F q0) (b0 : (own_z q0).natAbs ≤ 8 * own_C) (f1 : own_F q1) (b1 : (own_z q1).natAbs ≤ 8 * own_C) (hr : own_z q1 = own_rn (own_z q0 + own_z q1)) :
    MetFree l (⟨"com/example/outpost/outpost/service/split/ExactSum", "add", "([DID)I"⟩ : MethodName) (head1 (Jvm.Cond.code (⟨"com/example/outpost/outpost/service/split/ExactSum", "add", "([DID)I"⟩ : MethodName) prog_126_method_6_code 14 (some .int) :: ws) ({ frames := 1, cells := 0, slots := 0, locals := 15 } : Room)) (fun aa U => aa = #[(.ref a), (.int (2 : Int32)), (.double v1)] ∧ Z.Warmed39 U.vm ∧ U.heap = h0) (fun _ _ _ _ _ => True) (fun _ U ou U' => ∃ v L, ou = .returned v ∧ Q_rm_add2 Z a k v1 q0 q1 q2 q3 h0 n0 v U'.heap L ∧ FrameEnd U ou U' L ({ frames := 1, cells := 0, slots := 0, locals := 15 } : Room).cells ({ frames := 1, cells := 0, slots := 0, locals := 15 } : Room).slots) := by
  refine MetFree.of_bodySF (plainFor_of_name own_pn0) hisR ?_
  intro p e s m args below meth c s₁ Bd hml0 hP hK
  obtain ⟨rfl, hZ, hh⟩ := hP
  have hx := Bd.exec
  have hby := Bd.bytes
  have hml : c.maxLocals = 14 := hml0
  have hown : s.vm.findClass "com/example/outpost/outpost/service/split/ExactSum" = some m.cls := findClass_of_methodNamed Bd.named
  have hnm := (name_of_methodNamed Bd.named Bd.method).1
  have X0 : Stand p l e ({ frames := 1, cells := 0, slots := 0, locals := 15 } : Room) s m #[(.ref a), (.int (2 : Int32)), (.double v1)] below meth c s₁ [] 0 0 := Stand.of_body Bd
  have e0 : s₁.heap = h0 := by rw [← hh, Bd.state]; rfl
  have N0 := Fr.nil n0
  have K0 := Keep.refl h0 [a]
  show own_Go p e below (fun o u L => FrameEnd s o u L ({ frames := 1, cells := 0, slots := 0, locals := 15 } : Room).cells ({ frames := 1, cells := 0, slots := 0, locals := 15 } : Room).slots) (Q_rm_add2 Z a k v1 q0 q1 q2 q3 h0 n0) (s₁.setTop (entryFrame m #[(.ref a), (.int (2 : Int32)), (.double v1)] 14))
  rw [own_ef_rm_add2 m a v1]
  have hh := own_h1 fv f0 bv b0
  have hg := own_h2 hh.1 f1 hh.2.2 b1
  show own_Go _ _ _ _ _ (State.setTop _ (mkF _ 0 #[.val (.ref a), .val (.int (2 : Int32)), .val (.double v1), .second, .unset, .unset, .unset, .unset, .unset, .unset, .unset, .unset, .unset, .unset] []))
  refine own_iconst X0 hx 1 rfl (hb hby own_d7_0) (0 : Int32) rfl ?_
  refine own_istore X0 hx 3 rfl (hb hby own_d7_1) #[.val (.ref a), .val (.int (2 : Int32)), .val (.double v1), .second, .val (.int (0 : Int32)), .unset, .unset, .unset, .unset, .unset, .unset, .unset, .unset, .unset] rfl ?_
  refine own_dloadN X0 hx 4 rfl (hb hby own_d7_3) rfl ?_
  refine own_dstore X0 hx 6 rfl (hb hby own_d7_4) #[.val (.ref a), .val (.int (2 : Int32)), .val (.double v1), .second, .val (.int (0 : Int32)), .val (.double v1), .second, .unset, .unset, .unset, .unset, .unset, .unset, .unset] rfl ?_
  refine own_iconst X0 hx 7 rfl (hb hby own_d7_6) (0 : Int32) rfl ?_
  refine own_istore X0 hx 9 rfl (hb hby own_d7_7) #[.val (.ref a), .val (.int (2 : Int32)), .val (.double v1), .second, .val (.int (0 : Int32)), .val (.double v1), .second, .val (.int (0 : Int32)), .unset, .unset, .unset, .unset, .unset, .unset] rfl ?_
  refine own_iload X0 hx 11 rfl (hb hby own_d7_9) rfl ?_
  refine own_iloadN X0 hx 12 rfl (hb hby own_d7_11) rfl ?_
  refine own_icmpNo X0 hx 15 rfl (hb hby own_d7_12) (by decide) ?_
  refine own_aloadN X0 hx 16 rfl (hb hby own_d7_15) rfl rfl ?_
  refine own_iload X0 hx 18 rfl (hb hby own_d7_16) rfl ?_
  refine own_ldD X0 hx hZ e0 A1 ⟨by decide, by decide⟩ q0 rfl 19 rfl (hb hby own_d7_18) ?_
  refine own_dstore X0 hx 21 rfl (hb hby own_d7_19) #[.val (.ref a), .val (.int (2 : Int32)), .val (.double v1), .second, .val (.int (0 : Int32)), .val (.double v1), .second, .val (.int (0 : Int32)), .val (.double q0), .second, .unset, .unset, .unset, .unset] rfl ?_
  refine own_dload X0 hx 23 rfl (hb hby own_d7_21) rfl ?_
  refine own_dload X0 hx 25 rfl (hb hby own_d7_23) rfl ?_
  refine own_dadd X0 hx 26 rfl (hb hby own_d7_25) (own_nf hh.1) _ rfl ?_
  refine own_dstore X0 hx 28 rfl (hb hby own_d7_26) #[.val (.ref a), .val (.int (2 : Int32)), .val (.double v1), .second, .val (.int (0 : Int32)), .val (.double v1), .second, .val (.int (0 : Int32)), .val (.double q0), .second, .val (.double (FP.dadd v1 q0)), .second, .unset, .unset] rfl ?_
  refine own_dload X0 hx 30 rfl (hb hby own_d7_28) rfl ?_
  refine own_absD X0 hx hZ hown (own_hw hw 37 rfl) (own_hw hw 38 rfl) (own_hw hw 39 rfl) (own_hw hw 40 rfl) e0 (by rw [hml]; rfl) (own_nf fv) 33 rfl (hb hby own_d7_30) (by decide) 0 (Nat.le_of_eq rfl) (by decide) fun T177 X177 e177 => ?_
  refine own_dload X177 hx 35 rfl (hb hby own_d7_33) rfl ?_
  refine own_absD X177 hx hZ hown (own_hw hw 37 rfl) (own_hw hw 38 rfl) (own_hw hw 39 rfl) (own_hw hw 40 rfl) e177 (by rw [hml]; rfl) (own_nf f0) 38 rfl (hb hby own_d7_35) (by decide) 2 (Nat.le_of_eq rfl) (by decide) fun T178 X178 e178 => ?_
  refine own_dcmp X178 hx 39 rfl (hb hby own_d7_38) _ rfl ?_
  have Jlo1 : ∀ (lo1 : UInt64), (own_F lo1 ∧ own_z lo1 = own_z v1 + own_z q0 - own_z (FP.dadd v1 q0)) → own_Go p e below (fun o u L => FrameEnd s o u L ({ frames := 1, cells := 0, slots := 0, locals := 15 } : Room).cells ({ frames := 1, cells := 0, slots := 0, locals := 15 } : Room).slots) (Q_rm_add2 Z a k v1 q0 q1 q2 q3 h0 n0) (T178.setTop (mkF m 61 #[.val (.ref a), .val (.int (2 : Int32)), .val (.double v1), .second, .val (.int (0 : Int32)), .val (.double v1), .second, .val (.int (0 : Int32)), .val (.double q0), .second, .val (.double (FP.dadd v1 q0)), .second, .unset, .unset] [(.double lo1)])) := by
    intro lo1 hl1
    show own_Go _ _ _ _ _ (State.setTop _ (mkF _ 61 _ [(.double lo1)]))
    refine own_dstore X178 hx 63 rfl (hb hby own_d7_61) #[.val (.ref a), .val (.int (2 : Int32)), .val (.double v1), .second, .val (.int (0 : Int32)), .val (.double v1), .second, .val (.int (0 : Int32)), .val (.double q0), .second, .val (.double (FP.dadd v1 q0)), .second, .val (.double lo1), .second] rfl ?_
    refine own_dload X178 hx 65 rfl (hb hby own_d7_63) rfl ?_
    refine own_dconst0 X178 hx 66 rfl (hb hby own_d7_65) ?_
    refine own_dcmp X178 hx 67 rfl (hb hby own_d7_66) _ rfl ?_
    by_cases hc179 : cmpValue (FP.dcmp lo1 FP.dconst0) .l = 0
    ·
      have z0180 := (own_sgEq hl1.1 .l).mp hc179
      refine own_ifYes X178 hx 79 (hb hby own_d7_67) ((if0 _ _).trans (teq hc179).1) (by decide) rfl ?_
      refine own_dload X178 hx 81 rfl (hb hby own_d7_79) rfl ?_
      refine own_dstore X178 hx 83 rfl (hb hby own_d7_81) #[.val (.ref a), .val (.int (2 : Int32)), .val (.double v1), .second, .val (.int (0 : Int32)), .val (.double (FP.dadd v1 q0)), .second, .val (.int (0 : Int32)), .val (.double q0), .second, .val (.double (FP.dadd v1 q0)), .second, .val (.double lo1), .second] rfl ?_
      refine own_iinc X178 hx 86 rfl (hb hby own_d7_83) rfl #[.val (.ref a), .val (.int (2 : Int32)), .val (.double v1), .second, .val (.int (0 : Int32)), .val (.double (FP.dadd v1 q0)), .second, .val (.int (1 : Int32)), .val (.double q0), .second, .val (.double (FP.dadd v1 q0)), .second, .val (.double lo1), .second] rfl ?_
      refine own_goto X178 hx 9 (hb hby own_d7_86) (by decide) rfl ?_
      refine own_iload X178 hx 11 rfl (hb hby own_d7_9) rfl ?_
      refine own_iloadN X178 hx 12 rfl (hb hby own_d7_11) rfl ?_
      refine own_icmpNo X178 hx 15 rfl (hb hby own_d7_12) (by decide) ?_
      refine own_aloadN X178 hx 16 rfl (hb hby own_d7_15) rfl rfl ?_
      refine own_iload X178 hx 18 rfl (hb hby own_d7_16) rfl ?_
      refine own_ldD X178 hx hZ e178 A1 ⟨by decide, by decide⟩ q1 rfl 19 rfl (hb hby own_d7_18) ?_
      refine own_dstore X178 hx 21 rfl (hb hby own_d7_19) #[.val (.ref a), .val (.int (2 : Int32)), .val (.double v1), .second, .val (.int (0 : Int32)), .val (.double (FP.dadd v1 q0)), .second, .val (.int (1 : Int32)), .val (.double q1), .second, .val (.double (FP.dadd v1 q0)), .second, .val (.double lo1), .second] rfl ?_
      refine own_dload X178 hx 23 rfl (hb hby own_d7_21) rfl ?_
      refine own_dload X178 hx 25 rfl (hb hby own_d7_23) rfl ?_
      refine own_dadd X178 hx 26 rfl (hb hby own_d7_25) (own_nf hg.1) _ rfl ?_
      refine own_dstore X178 hx 28 rfl (hb hby own_d7_26) #[.val (.ref a), .val (.int (2 : Int32)), .val (.double v1), .second, .val (.int (0 : Int32)), .val (.double (FP.dadd v1 q0)), .second, .val (.int (1 : Int32)), .val (.double q1), .second, .val (.double (FP.dadd (FP.dadd v1 q0) q1)), .second, .val (.double lo1), .second] rfl ?_
      refine own_dload X178 hx 30 rfl (hb hby own_d7_28) rfl ?_
      refine own_absD X178 hx hZ hown (own_hw hw 37 rfl) (own_hw hw 38 rfl) (own_hw hw 39 rfl) (own_hw hw 40 rfl) e178 (by rw [hml]; rfl) (own_nf hh.1) 33 rfl (hb hby own_d7_30) (by decide) 0 (Nat.le_of_eq rfl) (by decide) fun T181 X181 e181 => ?_
      refine own_dload X181 hx 35 rfl (hb hby own_d7_33) rfl ?_
      refine own_absD X181 hx hZ hown (own_hw hw 37 rfl) (own_hw hw 38 rfl) (own_hw hw 39 rfl) (own_hw hw 40 rfl) e181 (by rw [hml]; rfl) (own_nf f1) 38 rfl (hb hby own_d7_35) (by decide) 2 (Nat.le_of_eq rfl) (by decide) fun T182 X182 e182 => ?_
      refine own_dcmp X182 hx 39 rfl (hb hby own_d7_38) _ rfl ?_
      have Jlo2 : ∀ (lo2 : UInt64), (own_F lo2 ∧ own_z lo2 = own_z (FP.dadd v1 q0) + own_z q1 - own_z (FP.dadd (FP.dadd v1 q0) q1)) → own_Go p e below (fun o u L => FrameEnd s o u L ({ frames := 1, cells := 0, slots := 0, locals := 15 } : Room).cells ({ frames := 1, cells := 0, slots := 0, locals := 15 } : Room).slots) (Q_rm_add2 Z a k v1 q0 q1 q2 q3 h0 n0) (T182.setTop (mkF m 61 #[.val (.ref a), .val (.int (2 : Int32)), .val (.double v1), .second, .val (.int (0 : Int32)), .val (.double (FP.dadd v1 q0)), .second, .val (.int (1 : Int32)), .val (.double q1), .second, .val (.double (FP.dadd (FP.dadd v1 q0) q1)), .second, .val (.double lo1), .second] [(.double lo2)])) := by
        intro lo2 hl2
        show own_Go _ _ _ _ _ (State.setTop _ (mkF _ 61 _ [(.double lo2)]))
        refine own_dstore X182 hx 63 rfl (hb hby own_d7_61) #[.val (.ref a), .val (.int (2 : Int32)), .val (.double v1), .second, .val (.int (0 : Int32)), .val (.double (FP.dadd v1 q0)), .second, .val (.int (1 : Int32)), .val (.double q1), .second, .val (.double (FP.dadd (FP.dadd v1 q0) q1)), .second, .val (.double lo2), .second] rfl ?_
        refine own_dload X182 hx 65 rfl (hb hby own_d7_63) rfl ?_
        refine own_dconst0 X182 hx 66 rfl (hb hby own_d7_65) ?_
        refine own_dcmp X182 hx 67 rfl (hb hby own_d7_66) _ rfl ?_
        by_cases hc183 : cmpValue (FP.dcmp lo2 FP.dconst0) .l = 0
        ·
          have z0184 := (own_sgEq hl2.1 .l).mp hc183
          refine own_ifYes X182 hx 79 (hb hby own_d7_67) ((if0 _ _).trans (teq hc183).1) (by decide) rfl ?_
          refine own_dload X182 hx 81 rfl (hb hby own_d7_79) rfl ?_
          refine own_dstore X182 hx 83 rfl (hb hby own_d7_81) #[.val (.ref a), .val (.int (2 : Int32)), .val (.double v1), .second, .val (.int (0 : Int32)), .val (.double (FP.dadd (FP.dadd v1 q0) q1)), .second, .val (.int (1 : Int32)), .val (.double q1), .second, .val (.double (FP.dadd (FP.dadd v1 q0) q1)), .second, .val (.double lo2), .second] rfl ?_
          refine own_iinc X182 hx 86 rfl (hb hby own_d7_83) rfl #[.val (.ref a), .val (.int (2 : Int32)), .val (.double v1), .second, .val (.int (0 : Int32)), .val (.double (FP.dadd (FP.dadd v1 q0) q1)), .second, .val (.int (2 : Int32)), .val (.double q1), .second, .val (.double (FP.dadd (FP.dadd v1 q0) q1)), .second, .val (.double lo2), .second] rfl ?_
          refine own_goto X182 hx 9 (hb hby own_d7_86) (by decide) rfl ?_
          refine own_iload X182 hx 11 rfl (hb hby own_d7_9) rfl ?_
          refine own_iloadN X182 hx 12 rfl (hb hby own_d7_11) rfl ?_
          refine own_icmpYes X182 hx 89 (hb hby own_d7_12) (by decide) (by decide) rfl ?_
          refine own_aloadN X182 hx 90 rfl (hb hby own_d7_89) rfl rfl ?_
          refine own_iload X182 hx 92 rfl (hb hby own_d7_90) rfl ?_
          refine own_iinc X182 hx 95 rfl (hb hby own_d7_92) rfl #[.val (.ref a), .val (.int (2 : Int32)), .val (.double v1), .second, .val (.int (1 : Int32)), .val (.double (FP.dadd (FP.dadd v1 q0) q1)), .second, .val (.int (2 : Int32)), .val (.double q1), .second, .val (.double (FP.dadd (FP.dadd v1 q0) q1)), .second, .val (.double lo2), .second] rfl ?_
          refine own_dload X182 hx 97 rfl (hb hby own_d7_95) rfl ?_
          refine own_stD X182 hx hZ e182 A1 ⟨by decide, by decide⟩ 0 rfl (Nat.le_of_ble_eq_true rfl) [(.double (FP.dadd (FP.dadd v1 q0) q1)), (.double q1), (.double q2), (.double q3)] rfl 98 rfl (hb hby own_d7_97) fun T185 h185 X185 e185 W185 f186 => ?_
          have z187 := Nat.le_trans Z0 (Keep.of_wr W185).1
          have K188 := K0.wr W185 (Or.inl (List.mem_of_getElem? (i := 0) rfl))
          have N189 := Fr.snoc X185 N0 g_a
          refine own_iload X185 hx 100 rfl (hb hby own_d7_98) rfl ?_
          refine own_ret X185 (some (.int (1 : Int32))) (fun h => by rw [Bd.returns] at h; cases h) Bd.notSynchronized (by decide) (by decide) ?_ (fun fs hr => own_retI X185 hx Bd.returns (hb hby own_d7_100) hr)
          show Q_rm_add2 Z a k v1 q0 q1 q2 q3 h0 n0 _ T185.heap _
          rw [e185]
          exact ⟨_, _, _, _, rfl, N189, K188, f186, (own_m2a fv f0 f1 bv b0 b1 hl1 hl2 z0180 z0184)⟩
        ·
          have z0190 := fun q => hc183 ((own_sgEq hl2.1 .l).mpr q)
          refine own_ifNo X182 hx 70 rfl (hb hby own_d7_67) ((if0 _ _).trans (feq hc183).1) ?_
          refine own_aloadN X182 hx 71 rfl (hb hby own_d7_70) rfl rfl ?_
          refine own_iload X182 hx 73 rfl (hb hby own_d7_71) rfl ?_
          refine own_iinc X182 hx 76 rfl (hb hby own_d7_73) rfl #[.val (.ref a), .val (.int (2 : Int32)), .val (.double v1), .second, .val (.int (1 : Int32)), .val (.double (FP.dadd v1 q0)), .second, .val (.int (1 : Int32)), .val (.double q1), .second, .val (.double (FP.dadd (FP.dadd v1 q0) q1)), .second, .val (.double lo2), .second] rfl ?_
          refine own_dload X182 hx 78 rfl (hb hby own_d7_76) rfl ?_
          refine own_stD X182 hx hZ e182 A1 ⟨by decide, by decide⟩ 0 rfl (Nat.le_of_ble_eq_true rfl) [(.double lo2), (.double q1), (.double q2), (.double q3)] rfl 79 rfl (hb hby own_d7_78) fun T191 h191 X191 e191 W191 f192 => ?_
          have z193 := Nat.le_trans Z0 (Keep.of_wr W191).1
          have K194 := K0.wr W191 (Or.inl (List.mem_of_getElem? (i := 0) rfl))
          have N195 := Fr.snoc X191 N0 g_a
          refine own_dload X191 hx 81 rfl (hb hby own_d7_79) rfl ?_
          refine own_dstore X191 hx 83 rfl (hb hby own_d7_81) #[.val (.ref a), .val (.int (2 : Int32)), .val (.double v1), .second, .val (.int (1 : Int32)), .val (.double (FP.dadd (FP.dadd v1 q0) q1)), .second, .val (.int (1 : Int32)), .val (.double q1), .second, .val (.double (FP.dadd (FP.dadd v1 q0) q1)), .second, .val (.double lo2), .second] rfl ?_
          refine own_iinc X191 hx 86 rfl (hb hby own_d7_83) rfl #[.val (.ref a), .val (.int (2 : Int32)), .val (.double v1), .second, .val (.int (1 : Int32)), .val (.double (FP.dadd (FP.dadd v1 q0) q1)), .second, .val (.int (2 : Int32)), .val (.double q1), .second, .val (.double (FP.dadd (FP.dadd v1 q0) q1)), .second, .val (.double lo2), .second] rfl ?_
          refine own_goto X191 hx 9 (hb hby own_d7_86) (by decide) rfl ?_
          refine own_iload X191 hx 11 rfl (hb hby own_d7_9) rfl ?_
          refine own_iloadN X191 hx 12 rfl (hb hby own_d7_11) rfl ?_
          refine own_icmpYes X191 hx 89 (hb hby own_d7_12) (by decide) (by decide) rfl ?_
          refine own_aloadN X191 hx 90 rfl (hb hby own_d7_89) rfl rfl ?_
          refine own_iload X191 hx 92 rfl (hb hby own_d7_90) rfl ?_
          refine own_iinc X191 hx 95 rfl (hb hby own_d7_92) rfl #[.val (.ref a), .val (.int (2 : Int32)), .val (.double v1), .second, .val (.int (2 : Int32)), .val (.double (FP.dadd (FP.dadd v1 q0) q1)), .second, .val (.int (2 : Int32)), .val (.double q1), .second, .val (.double (FP.dadd (FP.dadd v1 q0) q1)), .second, .val (.double lo2), .second] rfl ?_
          refine own_dload X191 hx 97 rfl (hb hby own_d7_95) rfl ?_
          refine own_stD X191 hx hZ e191 f192 ⟨by decide, by decide⟩ 1 rfl (Nat.le_of_ble_eq_true rfl) [(.double lo2), (.double (FP.dadd (FP.dadd v1 q0) q1)), (.double q2), (.double q3)] rfl 98 rfl (hb hby own_d7_97) fun T196 h196 X196 e196 W196 f197 => ?_
          have z198 := Nat.le_trans z193 (Keep.of_wr W196).1
          have K199 := K194.wr W196 (Or.inl (List.mem_of_getElem? (i := 0) rfl))
          have N200 := Fr.snoc X196 N195 g_a
          refine own_iload X196 hx 100 rfl (hb hby own_d7_98) rfl ?_
          refine own_ret X196 (some (.int (2 : Int32))) (fun h => by rw [Bd.returns] at h; cases h) Bd.notSynchronized (by decide) (by decide) ?_ (fun fs hr => own_retI X196 hx Bd.returns (hb hby own_d7_100) hr)
          show Q_rm_add2 Z a k v1 q0 q1 q2 q3 h0 n0 _ T196.heap _
          rw [e196]
          exact ⟨_, _, _, _, rfl, N200, K199, f197, (own_m2b fv f0 f1 bv b0 b1 hl1 hl2 z0180)⟩
      by_cases hc201 : cmpValue (FP.dcmp ((FP.dadd v1 q0) &&& 0x7fffffffffffffff) (q1 &&& 0x7fffffffffffffff)) .l < 0
      ·
        have kl202 := own_lowLt hh.1 f1 (own_64 hh.2.2) (own_64' b1) (Nat.le_of_lt ((own_absLt hh.1 f1).mp hc201))
        refine own_ifYes X182 hx 53 (hb hby own_d7_39) ((if0 _ _).trans (tlt hc201).1) (by decide) rfl ?_
        refine own_dload X182 hx 55 rfl (hb hby own_d7_53) rfl ?_
        refine own_dload X182 hx 57 rfl (hb hby own_d7_55) rfl ?_
        refine own_dload X182 hx 59 rfl (hb hby own_d7_57) rfl ?_
        refine own_dsub X182 hx 60 rfl (hb hby own_d7_59) (own_nf kl202.1) _ rfl ?_
        refine own_dsub X182 hx 61 rfl (hb hby own_d7_60) (own_nf kl202.2.1) _ rfl ?_
        exact Jlo2 _ kl202.2
      ·
        have kl203 := own_lowGe hh.1 f1 (own_64 hh.2.2) (own_64' b1) (Nat.not_lt.mp fun q => hc201 ((own_absLt hh.1 f1).mpr q))
        refine own_ifNo X182 hx 42 rfl (hb hby own_d7_39) ((if0 _ _).trans (flt hc201).1) ?_
        refine own_dload X182 hx 44 rfl (hb hby own_d7_42) rfl ?_
        refine own_dload X182 hx 46 rfl (hb hby own_d7_44) rfl ?_
        refine own_dload X182 hx 48 rfl (hb hby own_d7_46) rfl ?_
        refine own_dsub X182 hx 49 rfl (hb hby own_d7_48) (own_nf kl203.1) _ rfl ?_
        refine own_dsub X182 hx 50 rfl (hb hby own_d7_49) (own_nf kl203.2.1) _ rfl ?_
        refine own_goto X182 hx 61 (hb hby own_d7_50) (by decide) rfl ?_
        exact Jlo2 _ kl203.2
    ·
      have z0204 := fun q => hc179 ((own_sgEq hl1.1 .l).mpr q)
      refine own_ifNo X178 hx 70 rfl (hb hby own_d7_67) ((if0 _ _).trans (feq hc179).1) ?_
      refine own_aloadN X178 hx 71 rfl (hb hby own_d7_70) rfl rfl ?_
      refine own_iload X178 hx 73 rfl (hb hby own_d7_71) rfl ?_
      refine own_iinc X178 hx 76 rfl (hb hby own_d7_73) rfl #[.val (.ref a), .val (.int (2 : Int32)), .val (.double v1), .second, .val (.int (1 : Int32)), .val (.double v1), .second, .val (.int (0 : Int32)), .val (.double q0), .second, .val (.double (FP.dadd v1 q0)), .second, .val (.double lo1), .second] rfl ?_
      refine own_dload X178 hx 78 rfl (hb hby own_d7_76) rfl ?_
      refine own_stD X178 hx hZ e178 A1 ⟨by decide, by decide⟩ 0 rfl (Nat.le_of_ble_eq_true rfl) [(.double lo1), (.double q1), (.double q2), (.double q3)] rfl 79 rfl (hb hby own_d7_78) fun T205 h205 X205 e205 W205 f206 => ?_
      have z207 := Nat.le_trans Z0 (Keep.of_wr W205).1
      have K208 := K0.wr W205 (Or.inl (List.mem_of_getElem? (i := 0) rfl))
      have N209 := Fr.snoc X205 N0 g_a
      refine own_dload X205 hx 81 rfl (hb hby own_d7_79) rfl ?_
      refine own_dstore X205 hx 83 rfl (hb hby own_d7_81) #[.val (.ref a), .val (.int (2 : Int32)), .val (.double v1), .second, .val (.int (1 : Int32)), .val (.double (FP.dadd v1 q0)), .second, .val (.int (0 : Int32)), .val (.double q0), .second, .val (.double (FP.dadd v1 q0)), .second, .val (.double lo1), .second] rfl ?_
      refine own_iinc X205 hx 86 rfl (hb hby own_d7_83) rfl #[.val (.ref a), .val (.int (2 : Int32)), .val (.double v1), .second, .val (.int (1 : Int32)), .val (.double (FP.dadd v1 q0)), .second, .val (.int (1 : Int32)), .val (.double q0), .second, .val (.double (FP.dadd v1 q0)), .second, .val (.double lo1), .second] rfl ?_
      refine own_goto X205 hx 9 (hb hby own_d7_86) (by decide) rfl ?_
      refine own_iload X205 hx 11 rfl (hb hby own_d7_9) rfl ?_
      refine own_iloadN X205 hx 12 rfl (hb hby own_d7_11) rfl ?_
      refine own_icmpNo X205 hx 15 rfl (hb hby own_d7_12) (by decide) ?_
      refine own_aloadN X205 hx 16 rfl (hb hby own_d7_15) rfl rfl ?_
      refine own_iload X205 hx 18 rfl (hb hby own_d7_16) rfl ?_
      refine own_ldD X205 hx hZ e205 f206 ⟨by decide, by decide⟩ q1 rfl 19 rfl (hb hby own_d7_18) ?_
      refine own_dstore X205 hx 21 rfl (hb hby own_d7_19) #[.val (.ref a), .val (.int (2 : Int32)), .val (.double v1), .second, .val (.int (1 : Int32)), .val (.double (FP.dadd v1 q0)), .second, .val (.int (1 : Int32)), .val (.double q1), .second, .val (.double (FP.dadd v1 q0)), .second, .val (.double lo1), .second] rfl ?_
      refine own_dload X205 hx 23 rfl (hb hby own_d7_21) rfl ?_
      refine own_dload X205 hx 25 rfl (hb hby own_d7_23) rfl ?_
      refine own_dadd X205 hx 26 rfl (hb hby own_d7_25) (own_nf hg.1) _ rfl ?_
      refine own_dstore X205 hx 28 rfl (hb hby own_d7_26) #[.val (.ref a), .val (.int (2 : Int32)), .val (.double v1), .second, .val (.int (1 : Int32)), .val (.double (FP.dadd v1 q0)), .second, .val (.int (1 : Int32)), .val (.double q1), .second, .val (.double (FP.dadd (FP.dadd v1 q0) q1)), .second, .val (.double lo1), .second] rfl ?_
      refine own_dload X205 hx 30 rfl (hb hby own_d7_28) rfl ?_
      refine own_absD X205 hx hZ hown (own_hw hw 37 rfl) (own_hw hw 38 rfl) (own_hw hw 39 rfl) (own_hw hw 40 rfl) e205 (by rw [hml]; rfl) (own_nf hh.1) 33 rfl (hb hby own_d7_30) (by decide) 0 (Nat.le_of_eq rfl) (by decide) fun T210 X210 e210 => ?_
      refine own_dload X210 hx 35 rfl (hb hby own_d7_33) rfl ?_
      refine own_absD X210 hx hZ hown (own_hw hw 37 rfl) (own_hw hw 38 rfl) (own_hw hw 39 rfl) (own_hw hw 40 rfl) e210 (by rw [hml]; rfl) (own_nf f1) 38 rfl (hb hby own_d7_35) (by decide) 2 (Nat.le_of_eq rfl) (by decide) fun T211 X211 e211 => ?_
      refine own_dcmp X211 hx 39 rfl (hb hby own_d7_38) _ rfl ?_
      have Jlo2 : ∀ (lo2 : UInt64), (own_F lo2 ∧ own_z lo2 = own_z (FP.dadd v1 q0) + own_z q1 - own_z (FP.dadd (FP.dadd v1 q0) q1)) → own_Go p e below (fun o u L => FrameEnd s o u L ({ frames := 1, cells := 0, slots := 0, locals := 15 } : Room).cells ({ frames := 1, cells := 0, slots := 0, locals := 15 } : Room).slots) (Q_rm_add2 Z a k v1 q0 q1 q2 q3 h0 n0) (T211.setTop (mkF m 61 #[.val (.ref a), .val (.int (2 : Int32)), .val (.double v1), .second, .val (.int (1 : Int32)), .val (.double (FP.dadd v1 q0)), .second, .val (.int (1 : Int32)), .val (.double q1), .second, .val (.double (FP.dadd (FP.dadd v1 q0) q1)), .second, .val (.double lo1), .second] [(.double lo2)])) := by
        intro lo2 hl2
        show own_Go _ _ _ _ _ (State.setTop _ (mkF _ 61 _ [(.double lo2)]))
        refine own_dstore X211 hx 63 rfl (hb hby own_d7_61) #[.val (.ref a), .val (.int (2 : Int32)), .val (.double v1), .second, .val (.int (1 : Int32)), .val (.double (FP.dadd v1 q0)), .second, .val (.int (1 : Int32)), .val (.double q1), .second, .val (.double (FP.dadd (FP.dadd v1 q0) q1)), .second, .val (.double lo2), .second] rfl ?_
        refine own_dload X211 hx 65 rfl (hb hby own_d7_63) rfl ?_
        refine own_dconst0 X211 hx 66 rfl (hb hby own_d7_65) ?_
        refine own_dcmp X211 hx 67 rfl (hb hby own_d7_66) _ rfl ?_
        by_cases hc212 : cmpValue (FP.dcmp lo2 FP.dconst0) .l = 0
        ·
          have z0213 := (own_sgEq hl2.1 .l).mp hc212
          refine own_ifYes X211 hx 79 (hb hby own_d7_67) ((if0 _ _).trans (teq hc212).1) (by decide) rfl ?_
          refine own_dload X211 hx 81 rfl (hb hby own_d7_79) rfl ?_
          refine own_dstore X211 hx 83 rfl (hb hby own_d7_81) #[.val (.ref a), .val (.int (2 : Int32)), .val (.double v1), .second, .val (.int (1 : Int32)), .val (.double (FP.dadd (FP.dadd v1 q0) q1)), .second, .val (.int (1 : Int32)), .val (.double q1), .second, .val (.double (FP.dadd (FP.dadd v1 q0) q1)), .second, .val (.double lo2), .second] rfl ?_
          refine own_iinc X211 hx 86 rfl (hb hby own_d7_83) rfl #[.val (.ref a), .val (.int (2 : Int32)), .val (.double v1), .second, .val (.int (1 : Int32)), .val (.double (FP.dadd (FP.dadd v1 q0) q1)), .second, .val (.int (2 : Int32)), .val (.double q1), .second, .val (.double (FP.dadd (FP.dadd v1 q0) q1)), .second, .val (.double lo2), .second] rfl ?_
          refine own_goto X211 hx 9 (hb hby own_d7_86) (by decide) rfl ?_
          refine own_iload X211 hx 11 rfl (hb hby own_d7_9) rfl ?_
          refine own_iloadN X211 hx 12 rfl (hb hby own_d7_11) rfl ?_
          refine own_icmpYes X211 hx 89 (hb hby own_d7_12) (by decide) (by decide) rfl ?_
          refine own_aloadN X211 hx 90 rfl (hb hby own_d7_89) rfl rfl ?_
          refine own_iload X211 hx 92 rfl (hb hby own_d7_90) rfl ?_
          refine own_iinc X211 hx 95 rfl (hb hby own_d7_92) rfl #[.val (.ref a), .val (.int (2 : Int32)), .val (.double v1), .second, .val (.int (2 : Int32)), .val (.double (FP.dadd (FP.dadd v1 q0) q1)), .second, .val (.int (2 : Int32)), .val (.double q1), .second, .val (.double (FP.dadd (FP.dadd v1 q0) q1)), .second, .val (.double lo2), .second] rfl ?_
          refine own_dload X211 hx 97 rfl (hb hby own_d7_95) rfl ?_
          refine own_stD X211 hx hZ e211 f206 ⟨by decide, by decide⟩ 1 rfl (Nat.le_of_ble_eq_true rfl) [(.double lo1), (.double (FP.dadd (FP.dadd v1 q0) q1)), (.double q2), (.double q3)] rfl 98 rfl (hb hby own_d7_97) fun T214 h214 X214 e214 W214 f215 => ?_
          have z216 := Nat.le_trans z207 (Keep.of_wr W214).1
          have K217 := K208.wr W214 (Or.inl (List.mem_of_getElem? (i := 0) rfl))
          have N218 := Fr.snoc X214 N209 g_a
          refine own_iload X214 hx 100 rfl (hb hby own_d7_98) rfl ?_
          refine own_ret X214 (some (.int (2 : Int32))) (fun h => by rw [Bd.returns] at h; cases h) Bd.notSynchronized (by decide) (by decide) ?_ (fun fs hr => own_retI X214 hx Bd.returns (hb hby own_d7_100) hr)
          show Q_rm_add2 Z a k v1 q0 q1 q2 q3 h0 n0 _ T214.heap _
          rw [e214]
          exact ⟨_, _, _, _, rfl, N218, K217, f215, (own_m2c fv f0 f1 bv b0 b1 hl1 hl2 z0213)⟩
        ·
          have z0219 := fun q => hc212 ((own_sgEq hl2.1 .l).mpr q)
          refine own_ifNo X211 hx 70 rfl (hb hby own_d7_67) ((if0 _ _).trans (feq hc212).1) ?_
          refine own_aloadN X211 hx 71 rfl (hb hby own_d7_70) rfl rfl ?_
          refine own_iload X211 hx 73 rfl (hb hby own_d7_71) rfl ?_
          refine own_iinc X211 hx 76 rfl (hb hby own_d7_73) rfl #[.val (.ref a), .val (.int (2 : Int32)), .val (.double v1), .second, .val (.int (2 : Int32)), .val (.double (FP.dadd v1 q0)), .second, .val (.int (1 : Int32)), .val (.double q1), .second, .val (.double (FP.dadd (FP.dadd v1 q0) q1)), .second, .val (.double lo2), .second] rfl ?_
          refine own_dload X211 hx 78 rfl (hb hby own_d7_76) rfl ?_
          refine own_stD X211 hx hZ e211 f206 ⟨by decide, by decide⟩ 1 rfl (Nat.le_of_ble_eq_true rfl) [(.double lo1), (.double lo2), (.double q2), (.double q3)] rfl 79 rfl (hb hby own_d7_78) fun T220 h220 X220 e220 W220 f221 => ?_
          have z222 := Nat.le_trans z207 (Keep.of_wr W220).1
          have K223 := K208.wr W220 (Or.inl (List.mem_of_getElem? (i := 0) rfl))
          have N224 := Fr.snoc X220 N209 g_a
          refine own_dload X220 hx 81 rfl (hb hby own_d7_79) rfl ?_
          refine own_dstore X220 hx 83 rfl (hb hby own_d7_81) #[.val (.ref a), .val (.int (2 : Int32)), .val (.double v1), .second, .val (.int (2 : Int32)), .val (.double (FP.dadd (FP.dadd v1 q0) q1)), .second, .val (.int (1 : Int32)), .val (.double q1), .second, .val (.double (FP.dadd (FP.dadd v1 q0) q1)), .second, .val (.double lo2), .second] rfl ?_
          refine own_iinc X220 hx 86 rfl (hb hby own_d7_83) rfl #[.val (.ref a), .val (.int (2 : Int32)), .val (.double v1), .second, .val (.int (2 : Int32)), .val (.double (FP.dadd (FP.dadd v1 q0) q1)), .second, .val (.int (2 : Int32)), .val (.double q1), .second, .val (.double (FP.dadd (FP.dadd v1 q0) q1)), .second, .val (.double lo2), .second] rfl ?_
          refine own_goto X220 hx 9 (hb hby own_d7_86) (by decide) rfl ?_
          refine own_iload X220 hx 11 rfl (hb hby own_d7_9) rfl ?_
          refine own_iloadN X220 hx 12 rfl (hb hby own_d7_11) rfl ?_
          refine own_icmpYes X220 hx 89 (hb hby own_d7_12) (by decide) (by decide) rfl ?_
          refine own_aloadN X220 hx 90 rfl (hb hby own_d7_89) rfl rfl ?_
          refine own_iload X220 hx 92 rfl (hb hby own_d7_90) rfl ?_
          refine own_iinc X220 hx 95 rfl (hb hby own_d7_92) rfl #[.val (.ref a), .val (.int (2 : Int32)), .val (.double v1), .second, .val (.int (3 : Int32)), .val (.double (FP.dadd (FP.dadd v1 q0) q1)), .second, .val (.int (2 : Int32)), .val (.double q1), .second, .val (.double (FP.dadd (FP.dadd v1 q0) q1)), .second, .val (.double lo2), .second] rfl ?_
          refine own_dload X220 hx 97 rfl (hb hby own_d7_95) rfl ?_
          refine own_stD X220 hx hZ e220 f221 ⟨by decide, by decide⟩ 2 rfl (Nat.le_of_ble_eq_true rfl) [(.double lo1), (.double lo2), (.double (FP.dadd (FP.dadd v1 q0) q1)), (.double q3)] rfl 98 rfl (hb hby own_d7_97) fun T225 h225 X225 e225 W225 f226 => ?_
          have z227 := Nat.le_trans z222 (Keep.of_wr W225).1
          have K228 := K223.wr W225 (Or.inl (List.mem_of_getElem? (i := 0) rfl))
          have N229 := Fr.snoc X225 N224 g_a
          refine own_iload X225 hx 100 rfl (hb hby own_d7_98) rfl ?_
          refine own_ret X225 (some (.int (3 : Int32))) (fun h => by rw [Bd.returns] at h; cases h) Bd.notSynchronized (by decide) (by decide) ?_ (fun fs hr => own_retI X225 hx Bd.returns (hb hby own_d7_100) hr)
          show Q_rm_add2 Z a k v1 q0 q1 q2 q3 h0 n0 _ T225.heap _
          rw [e225]
          exact ⟨_, _, _, _, rfl, N229, K228, f226, (own_m2d fv f0 f1 bv b0 b1 hr hl1 hl2 z0219)⟩
      by_cases hc230 : cmpValue (FP.dcmp ((FP.dadd v1 q0) &&& 0x7fffffffffffffff) (q1 &&& 0x7fffffffffffffff)) .l < 0
      ·
        have kl231 := own_lowLt hh.1 f1 (own_64 hh.2.2) (own_64' b1) (Nat.le_of_lt ((own_absLt hh.1 f1).mp hc230))
        refine own_ifYes X211 hx 53 (hb hby own_d7_39) ((if0 _ _).trans (tlt hc230).1) (by decide) rfl ?_
        refine own_dload X211 hx 55 rfl (hb hby own_d7_53) rfl ?_
        refine own_dload X211 hx 57 rfl (hb hby own_d7_55) rfl ?_
        refine own_dload X211 hx 59 rfl (hb hby own_d7_57) rfl ?_
        refine own_dsub X211 hx 60 rfl (hb hby own_d7_59) (own_nf kl231.1) _ rfl ?_
        refine own_dsub X211 hx 61 rfl (hb hby own_d7_60) (own_nf kl231.2.1) _ rfl ?_
        exact Jlo2 _ kl231.2
      ·
        have kl232 := own_lowGe hh.1 f1 (own_64 hh.2.2) (own_64' b1) (Nat.not_lt.mp fun q => hc230 ((own_absLt hh.1 f1).mpr q))
        refine own_ifNo X211 hx 42 rfl (hb hby own_d7_39) ((if0 _ _).trans (flt hc230).1) ?_
        refine own_dload X211 hx 44 rfl (hb hby own_d7_42) rfl ?_
        refine own_dload X211 hx 46 rfl (hb hby own_d7_44) rfl ?_
        refine own_dload X211 hx 48 rfl (hb hby own_d7_46) rfl ?_
        refine own_dsub X211 hx 49 rfl (hb hby own_d7_48) (own_nf kl232.1) _ rfl ?_
        refine own_dsub X211 hx 50 rfl (hb hby own_d7_49) (own_nf kl232.2.1) _ rfl ?_
        refine own_goto X211 hx 61 (hb hby own_d7_50) (by decide) rfl ?_
        exact Jlo2 _ kl232.2
  by_cases hc233 : cmpValue (FP.dcmp (v1 &&& 0x7fffffffffffffff) (q0 &&& 0x7fffffffffffffff)) .l < 0
  ·
    have kl234 := own_lowLt fv f0 (own_64v bv) (own_64' b0) (Nat.le_of_lt ((own_absLt fv f0).mp hc233))
    refine own_ifYes X178 hx 53 (hb hby own_d7_39) ((if0 _ _).trans (tlt hc233).1) (by decide) rfl ?_
    refine own_dload X178 hx 55 rfl (hb hby own_d7_53) rfl ?_
    refine own_dload X178 hx 57 rfl (hb hby own_d7_55) rfl ?_
    refine own_dload X178 hx 59 rfl (hb hby own_d7_57) rfl ?_
    refine own_dsub X178 hx 60 rfl (hb hby own_d7_59) (own_nf kl234.1) _ rfl ?_
    refine own_dsub X178 hx 61 rfl (hb hby own_d7_60) (own_nf kl234.2.1) _ rfl ?_
    exact Jlo1 _ kl234.2
  ·
    have kl235 := own_lowGe fv f0 (own_64v bv) (own_64' b0) (Nat.not_lt.mp fun q => hc233 ((own_absLt fv f0).mpr q))
    refine own_ifNo X178 hx 42 rfl (hb hby own_d7_39) ((if0 _ _).trans (flt hc233).1) ?_
    refine own_dload X178 hx 44 rfl (hb hby own_d7_42) rfl ?_
    refine own_dload X178 hx 46 rfl (hb hby own_d7_44) rfl ?_
    refine own_dload X178 hx 48 rfl (hb hby own_d7_46) rfl ?_
    refine own_dsub X178 hx 49 rfl (hb hby own_d7_48) (own_nf kl235.1) _ rfl ?_
    refine own_dsub X178 hx 50 rfl (hb hby own_d7_49) (own_nf kl235.2.1) _ rfl ?_
    refine own_goto X178 hx 61 (hb hby own_d7_50) (by decide) rfl ?_
    exact Jlo1 _ kl235.2
theorem own_ef_rm_addB0 (m : MethodId) (o : Addr) (v1 : UInt64) : entryFrame m #[(.ref o), (.double v1)] 3 = mkF m 0 #[.val (.ref o), .val (.double v1), .second] [] := by first | (simp [entryFrame, mkF, argsToLocals, Value.category]; done) | rfl
def Q_rm_addB0 (Z : State) (o : Addr) (v1 : UInt64) (a : Addr) (k : ClassId) (cn : Int32) (q0 : UInt64) (q1 : UInt64) (q2 : UInt64) (q3 : UInt64) (tt : Int) (h0 : Heap) (n0 : Nat) (v : Option Value) (h : Heap) (L : List Loc) : Prop := v = none ∧ Fr n0 L ∧ Keep h0 h [o, a] ∧ ∃ (cn' : Int32) (r0 r1 r2 : UInt64), Exa Z h o "com/example/outpost/outpost/service/split/ExactSum" ∧ Fld Z h o "com/example/outpost/outpost/service/split/ExactSum" "parts" "[D" (.ref a) ∧ Fld Z h o "com/example/outpost/outpost/service/split/ExactSum" "count" "I" (.int cn') ∧ Arv Z h a k .double (4 : Int32) [(.double r0), (.double r1), (.double r2), (.double q3)] (.double (0 : UInt64)) ∧ own_J1 (tt + own_z v1) cn' r0 r1 r2
theorem own_d6_0 : decode prog_126_method_3_code 0 = .ok (.aload_n 0, 1) := by decide +kernel
theorem own_d6_1 : decode prog_126_method_3_code 1 = .ok (.getfield 16, 3) := by decide +kernel
theorem own_d6_4 : decode prog_126_method_3_code 4 = .ok (.aload_n 0, 1) := by decide +kernel
theorem own_d6_5 : decode prog_126_method_3_code 5 = .ok (.getfield 7, 3) := by decide +kernel
theorem own_d6_8 : decode prog_126_method_3_code 8 = .ok (.arraylength, 1) := by decide +kernel
theorem own_d6_9 : decode prog_126_method_3_code 9 = .ok (.if_icmp .ne 20, 3) := by decide +kernel
theorem own_d6_29 : decode prog_126_method_3_code 29 = .ok (.aload_n 0, 1) := by decide +kernel
theorem own_d6_30 : decode prog_126_method_3_code 30 = .ok (.aload_n 0, 1) := by decide +kernel
theorem own_d6_31 : decode prog_126_method_3_code 31 = .ok (.getfield 7, 3) := by decide +kernel
theorem own_d6_34 : decode prog_126_method_3_code 34 = .ok (.aload_n 0, 1) := by decide +kernel
theorem own_d6_35 : decode prog_126_method_3_code 35 = .ok (.getfield 16, 3) := by decide +kernel
theorem own_d6_38 : decode prog_126_method_3_code 38 = .ok (.dload_n 1, 1) := by decide +kernel
theorem own_d6_39 : decode prog_126_method_3_code 39 = .ok (.invokestatic 26, 3) := by decide +kernel
theorem own_pd0 : parseMethodDescriptor "([DID)I" = some ⟨[(.array .double), .int, .double], some .int⟩ := by decide +kernel
theorem own_d6_42 : decode prog_126_method_3_code 42 = .ok (.putfield 16, 3) := by decide +kernel
theorem own_d6_45 : decode prog_126_method_3_code 45 = .ok (.return_, 1) := by decide +kernel
set_option maxRecDepth 65536 in
set_option maxHeartbeats 40000000 in
theorem rm_addB0 (l : Launch) (Z : State) (a0 : Array Value) (hw : ∀ d ∈ tables_1, d.before a0 Z = true) (ws : List Jvm.Cond) (o : Addr) (v1 : UInt64) (a : Addr) (k : ClassId) (cn : Int32) (q0 : UInt64) (q1 : UInt64) (q2 : UInt64) (q3 : UInt64) (tt : Int) (h0 : Heap) (n0 : Nat) (Z0 : n0 ≤ h0.size) (E1 : Exa Z h0 o "com/example/outpost/outpost/service/split/ExactSum") (F1 : Fld Z h0 o "com/example/outpost/outpost/service/split/ExactSum" "parts" "[D" (.ref a)) (F2 : Fld Z h0 o "com/example/outpost/outpost/service/split/ExactSum" "count" "I" (.int cn)) (A1 : Arv Z h0 a k .double (4 : Int32) [(.double q0), (.double q1), (.double q2), (.double q3)] (.double (0 : UInt64))) (g_o : n0 ≤ o) (g_a : n0 ≤ a) (ne_oa : o ≠ a) (fv : own_F v1) (bv : (own_z v1).natAbs ≤ own_C) (hJ : own_J0 tt cn q0 q1 q2) (bt : tt.natAbs ≤ 2 * own_C) :
    MetFree l (⟨"com/example/outpost/outpost/service/split/ExactSum", "add", "(D)V"⟩ : MethodName) (head1 (Jvm.Cond.code (⟨"com/example/outpost/outpost/service/split/ExactSum", "add", "(D)V"⟩ : MethodName) prog_126_method_3_code 3 none :: ws) ({ frames := 2, cells := 0, slots := 0, locals := 45 } : Room)) (fun aa U => aa = #[(.ref o), (.double v1)] ∧ Z.Warmed39 U.vm ∧ U.heap = h0) (fun _ _ _ _ _ => True) (fun _ U ou U' => ∃ v L, ou = .returned v ∧ Q_rm_addB0 Z o v1 a k cn q0 q1 q2 q3 tt h0 n0 v U'.heap L ∧ FrameEnd U ou U' L ({ frames := 2, cells := 0, slots := 0, locals := 45 } : Room).cells ({ frames := 2, cells := 0, slots := 0, locals := 45 } : Room).slots) := by
  refine MetFree.of_bodySF (plainFor_of_name own_pn0) hisR ?_
  intro p e s m args below meth c s₁ Bd hml0 hP hK
  obtain ⟨rfl, hZ, hh⟩ := hP
  have hx := Bd.exec
  have hby := Bd.bytes
  have hml : c.maxLocals = 3 := hml0
  have hown : s.vm.findClass "com/example/outpost/outpost/service/split/ExactSum" = some m.cls := findClass_of_methodNamed Bd.named
  have hnm := (name_of_methodNamed Bd.named Bd.method).1
  have X0 : Stand p l e ({ frames := 2, cells := 0, slots := 0, locals := 45 } : Room) s m #[(.ref o), (.double v1)] below meth c s₁ [] 0 0 := Stand.of_body Bd
  have e0 : s₁.heap = h0 := by rw [← hh, Bd.state]; rfl
  have N0 := Fr.nil n0
  have K0 := Keep.refl h0 [o, a]
  show own_Go p e below (fun o u L => FrameEnd s o u L ({ frames := 2, cells := 0, slots := 0, locals := 45 } : Room).cells ({ frames := 2, cells := 0, slots := 0, locals := 45 } : Room).slots) (Q_rm_addB0 Z o v1 a k cn q0 q1 q2 q3 tt h0 n0) (s₁.setTop (entryFrame m #[(.ref o), (.double v1)] 3))
  rw [own_ef_rm_addB0 m o v1]
  obtain ⟨hn, hT⟩ := hJ
  ·
    have F2236 : Fld Z h0 o "com/example/outpost/outpost/service/split/ExactSum" "count" "I" (.int (0 : Int32)) := by rw [hn] at F2; exact F2
    show own_Go _ _ _ _ _ (State.setTop _ (mkF _ 0 #[.val (.ref o), .val (.double v1), .second] []))
    refine own_aloadN X0 hx 1 rfl (hb hby own_d6_0) rfl rfl ?_
    refine own_getF X0 hx hZ (host := "") hown (Or.inl (own_hw hw 24 rfl)) Via.refl e0 F2236 4 rfl (hb hby own_d6_1) fun T237 X237 e237 => ?_
    refine own_aloadN X237 hx 5 rfl (hb hby own_d6_4) rfl rfl ?_
    refine own_getF X237 hx hZ (host := "") hown (Or.inl (own_hw hw 11 rfl)) Via.refl e237 F1 8 rfl (hb hby own_d6_5) fun T238 X238 e238 => ?_
    refine own_len X238 hx hZ e238 A1 9 rfl (hb hby own_d6_8) ?_
    refine own_icmpYes X238 hx 29 (hb hby own_d6_9) (by decide) (by decide) rfl ?_
    refine own_aloadN X238 hx 30 rfl (hb hby own_d6_29) rfl rfl ?_
    refine own_aloadN X238 hx 31 rfl (hb hby own_d6_30) rfl rfl ?_
    refine own_getF X238 hx hZ (host := "") hown (Or.inl (own_hw hw 11 rfl)) Via.refl e238 F1 34 rfl (hb hby own_d6_31) fun T239 X239 e239 => ?_
    refine own_aloadN X239 hx 35 rfl (hb hby own_d6_34) rfl rfl ?_
    refine own_getF X239 hx hZ (host := "") hown (Or.inl (own_hw hw 24 rfl)) Via.refl e239 F2236 38 rfl (hb hby own_d6_35) fun T240 X240 e240 => ?_
    refine own_dloadN X240 hx 39 rfl (hb hby own_d6_38) rfl ?_
    refine own_callS X240 hx hZ (y := (⟨"com/example/outpost/outpost/service/split/ExactSum", "add", "([DID)I"⟩ : MethodName)) hown (own_hw hw 34 rfl) (own_hw hw 35 rfl) (by decide) (rm_add0 l Z a0 hw [] a k v1 q0 q1 q2 q3 h0 n0 Z0 A1 g_a fv bv) (own_hw hw 36 rfl) (own_hw hw 4 rfl) (by decide) e240 (by rw [hml]; rfl) [(.ref a), (.int (0 : Int32)), (.double v1)] 1 (by decide) (Nat.le_of_eq rfl) (by decide) (by decide) (lenOf own_pd0 rfl) rfl rfl 42 rfl (hb hby own_d6_39) fun v241 T241 Lc241 X241 hQ241 => ?_
    obtain ⟨c241, r0241, r1241, r2241, rfl, Nq241, Kq241, Aq241, P241⟩ := hQ241
    have N242 := Fr.app N0 Nq241
    have f243 := E1.keep Kq241
    have f244 := F1.keep Kq241 (ninS ne_oa nin0)
    have f245 := F2236.keep Kq241 (ninS ne_oa nin0)
    have z247 := Nat.le_trans Z0 Kq241.1
    have K248 := K0.trans Kq241 (allS (Or.inl (List.mem_of_getElem? (i := 1) rfl)) all0)
    show own_Go _ _ _ _ _ (State.setTop _ (mkF _ 42 _ [(.int c241), (.ref o)]))
    refine own_putF X241 hx hZ (host := "") hown (Or.inl (own_hw hw 24 rfl)) Via.refl rfl f245 f243 (Or.inl (own_hw hw 25 rfl)) (own_hw hw 3 rfl) (ty := .int) (by decide) rfl rfl 45 rfl (hb hby own_d6_42) fun T249 h249 X249 e249 W249 => ?_
    have f250 := f243.wr W249
    have f251 := f244.other W249 (Or.inr (slot_ne (Or.inl (own_hw hw 12 rfl)) (Or.inl (own_hw hw 25 rfl)) (by decide) (t := (.array .double)) (t' := .int) (by decide) (by decide)))
    have f252 := Aq241.other W249 (Ne.symm ne_oa)
    have z253 := Nat.le_trans z247 (Keep.of_wr W249).1
    have K254 := K248.wr W249 (Or.inl (List.mem_of_getElem? (i := 0) rfl))
    have f255 := f245.same W249
    have N256 := Fr.snoc X249 N242 g_o
    refine own_ret X249 none (fun _ => rfl) Bd.notSynchronized (by decide) (by decide) ?_ (fun fs hr => X249.returnOut hx Bd.returns (hb hby own_d6_45) hr)
    show Q_rm_addB0 Z o v1 a k cn q0 q1 q2 q3 tt h0 n0 _ T249.heap _
    rw [e249]
    exact ⟨rfl, N256, K254, _, _, _, _, f250, f251, f255, f252, (by rw [hT, Int.zero_add]; exact P241)⟩
theorem own_ef_rm_addB1 (m : MethodId) (o : Addr) (v1 : UInt64) : entryFrame m #[(.ref o), (.double v1)] 3 = mkF m 0 #[.val (.ref o), .val (.double v1), .second] [] := by first | (simp [entryFrame, mkF, argsToLocals, Value.category]; done) | rfl
def Q_rm_addB1 (Z : State) (o : Addr) (v1 : UInt64) (a : Addr) (k : ClassId) (cn : Int32) (q0 : UInt64) (q1 : UInt64) (q2 : UInt64) (q3 : UInt64) (tt : Int) (h0 : Heap) (n0 : Nat) (v : Option Value) (h : Heap) (L : List Loc) : Prop := v = none ∧ Fr n0 L ∧ Keep h0 h [o, a] ∧ ∃ (cn' : Int32) (r0 r1 r2 : UInt64), Exa Z h o "com/example/outpost/outpost/service/split/ExactSum" ∧ Fld Z h o "com/example/outpost/outpost/service/split/ExactSum" "parts" "[D" (.ref a) ∧ Fld Z h o "com/example/outpost/outpost/service/split/ExactSum" "count" "I" (.int cn') ∧ Arv Z h a k .double (4 : Int32) [(.double r0), (.double r1), (.double r2), (.double q3)] (.double (0 : UInt64)) ∧ own_J2 (tt + own_z v1) cn' r0 r1 r2
set_option maxRecDepth 65536 in
set_option maxHeartbeats 40000000 in
theorem rm_addB1 (l : Launch) (Z : State) (a0 : Array Value) (hw : ∀ d ∈ tables_1, d.before a0 Z = true) (ws : List Jvm.Cond) (o : Addr) (v1 : UInt64) (a : Addr) (k : ClassId) (cn : Int32) (q0 : UInt64) (q1 : UInt64) (q2 : UInt64) (q3 : UInt64) (tt : Int) (h0 : Heap) (n0 : Nat) (Z0 : n0 ≤ h0.size) (E1 : Exa Z h0 o "com/example/outpost/outpost/service/split/ExactSum") (F1 : Fld Z h0 o "com/example/outpost/outpost/service/split/ExactSum" "parts" "[D" (.ref a)) (F2 : Fld Z h0 o "com/example/outpost/outpost/service/split/ExactSum" "count" "I" (.int cn)) (A1 : Arv Z h0 a k .double (4 : Int32) [(.double q0), (.double q1), (.double q2), (.double q3)] (.double (0 : UInt64))) (g_o : n0 ≤ o) (g_a : n0 ≤ a) (ne_oa : o ≠ a) (fv : own_F v1) (bv : (own_z v1).natAbs ≤ own_C) (hJ : own_J1 tt cn q0 q1 q2) (bt : tt.natAbs ≤ 2 * own_C) :
    MetFree l (⟨"com/example/outpost/outpost/service/split/ExactSum", "add", "(D)V"⟩ : MethodName) (head1 (Jvm.Cond.code (⟨"com/example/outpost/outpost/service/split/ExactSum", "add", "(D)V"⟩ : MethodName) prog_126_method_3_code 3 none :: ws) ({ frames := 2, cells := 0, slots := 0, locals := 45 } : Room)) (fun aa U => aa = #[(.ref o), (.double v1)] ∧ Z.Warmed39 U.vm ∧ U.heap = h0) (fun _ _ _ _ _ => True) (fun _ U ou U' => ∃ v L, ou = .returned v ∧ Q_rm_addB1 Z o v1 a k cn q0 q1 q2 q3 tt h0 n0 v U'.heap L ∧ FrameEnd U ou U' L ({ frames := 2, cells := 0, slots := 0, locals := 45 } : Room).cells ({ frames := 2, cells := 0, slots := 0, locals := 45 } : Room).slots) := by
  refine MetFree.of_bodySF (plainFor_of_name own_pn0) hisR ?_
  intro p e s m args below meth c s₁ Bd hml0 hP hK
  obtain ⟨rfl, hZ, hh⟩ := hP
  have hx := Bd.exec
  have hby := Bd.bytes
  have hml : c.maxLocals = 3 := hml0
  have hown : s.vm.findClass "com/example/outpost/outpost/service/split/ExactSum" = some m.cls := findClass_of_methodNamed Bd.named
  have hnm := (name_of_methodNamed Bd.named Bd.method).1
  have X0 : Stand p l e ({ frames := 2, cells := 0, slots := 0, locals := 45 } : Room) s m #[(.ref o), (.double v1)] below meth c s₁ [] 0 0 := Stand.of_body Bd
  have e0 : s₁.heap = h0 := by rw [← hh, Bd.state]; rfl
  have N0 := Fr.nil n0
  have K0 := Keep.refl h0 [o, a]
  show own_Go p e below (fun o u L => FrameEnd s o u L ({ frames := 2, cells := 0, slots := 0, locals := 45 } : Room).cells ({ frames := 2, cells := 0, slots := 0, locals := 45 } : Room).slots) (Q_rm_addB1 Z o v1 a k cn q0 q1 q2 q3 tt h0 n0) (s₁.setTop (entryFrame m #[(.ref o), (.double v1)] 3))
  rw [own_ef_rm_addB1 m o v1]
  rcases hJ with ⟨hn, hT⟩ | ⟨hn, f0, hT⟩
  ·
    have F2257 : Fld Z h0 o "com/example/outpost/outpost/service/split/ExactSum" "count" "I" (.int (0 : Int32)) := by rw [hn] at F2; exact F2
    show own_Go _ _ _ _ _ (State.setTop _ (mkF _ 0 #[.val (.ref o), .val (.double v1), .second] []))
    refine own_aloadN X0 hx 1 rfl (hb hby own_d6_0) rfl rfl ?_
    refine own_getF X0 hx hZ (host := "") hown (Or.inl (own_hw hw 24 rfl)) Via.refl e0 F2257 4 rfl (hb hby own_d6_1) fun T258 X258 e258 => ?_
    refine own_aloadN X258 hx 5 rfl (hb hby own_d6_4) rfl rfl ?_
    refine own_getF X258 hx hZ (host := "") hown (Or.inl (own_hw hw 11 rfl)) Via.refl e258 F1 8 rfl (hb hby own_d6_5) fun T259 X259 e259 => ?_
    refine own_len X259 hx hZ e259 A1 9 rfl (hb hby own_d6_8) ?_
    refine own_icmpYes X259 hx 29 (hb hby own_d6_9) (by decide) (by decide) rfl ?_
    refine own_aloadN X259 hx 30 rfl (hb hby own_d6_29) rfl rfl ?_
    refine own_aloadN X259 hx 31 rfl (hb hby own_d6_30) rfl rfl ?_
    refine own_getF X259 hx hZ (host := "") hown (Or.inl (own_hw hw 11 rfl)) Via.refl e259 F1 34 rfl (hb hby own_d6_31) fun T260 X260 e260 => ?_
    refine own_aloadN X260 hx 35 rfl (hb hby own_d6_34) rfl rfl ?_
    refine own_getF X260 hx hZ (host := "") hown (Or.inl (own_hw hw 24 rfl)) Via.refl e260 F2257 38 rfl (hb hby own_d6_35) fun T261 X261 e261 => ?_
    refine own_dloadN X261 hx 39 rfl (hb hby own_d6_38) rfl ?_
    refine own_callS X261 hx hZ (y := (⟨"com/example/outpost/outpost/service/split/ExactSum", "add", "([DID)I"⟩ : MethodName)) hown (own_hw hw 34 rfl) (own_hw hw 35 rfl) (by decide) (rm_add0 l Z a0 hw [] a k v1 q0 q1 q2 q3 h0 n0 Z0 A1 g_a fv bv) (own_hw hw 36 rfl) (own_hw hw 4 rfl) (by decide) e261 (by rw [hml]; rfl) [(.ref a), (.int (0 : Int32)), (.double v1)] 1 (by decide) (Nat.le_of_eq rfl) (by decide) (by decide) (lenOf own_pd0 rfl) rfl rfl 42 rfl (hb hby own_d6_39) fun v262 T262 Lc262 X262 hQ262 => ?_
    obtain ⟨c262, r0262, r1262, r2262, rfl, Nq262, Kq262, Aq262, P262⟩ := hQ262
    have N263 := Fr.app N0 Nq262
    have f264 := E1.keep Kq262
    have f265 := F1.keep Kq262 (ninS ne_oa nin0)
    have f266 := F2257.keep Kq262 (ninS ne_oa nin0)
    have z268 := Nat.le_trans Z0 Kq262.1
    have K269 := K0.trans Kq262 (allS (Or.inl (List.mem_of_getElem? (i := 1) rfl)) all0)
    show own_Go _ _ _ _ _ (State.setTop _ (mkF _ 42 _ [(.int c262), (.ref o)]))
    refine own_putF X262 hx hZ (host := "") hown (Or.inl (own_hw hw 24 rfl)) Via.refl rfl f266 f264 (Or.inl (own_hw hw 25 rfl)) (own_hw hw 3 rfl) (ty := .int) (by decide) rfl rfl 45 rfl (hb hby own_d6_42) fun T270 h270 X270 e270 W270 => ?_
    have f271 := f264.wr W270
    have f272 := f265.other W270 (Or.inr (slot_ne (Or.inl (own_hw hw 12 rfl)) (Or.inl (own_hw hw 25 rfl)) (by decide) (t := (.array .double)) (t' := .int) (by decide) (by decide)))
    have f273 := Aq262.other W270 (Ne.symm ne_oa)
    have z274 := Nat.le_trans z268 (Keep.of_wr W270).1
    have K275 := K269.wr W270 (Or.inl (List.mem_of_getElem? (i := 0) rfl))
    have f276 := f266.same W270
    have N277 := Fr.snoc X270 N263 g_o
    refine own_ret X270 none (fun _ => rfl) Bd.notSynchronized (by decide) (by decide) ?_ (fun fs hr => X270.returnOut hx Bd.returns (hb hby own_d6_45) hr)
    show Q_rm_addB1 Z o v1 a k cn q0 q1 q2 q3 tt h0 n0 _ T270.heap _
    rw [e270]
    exact ⟨rfl, N277, K275, _, _, _, _, f271, f272, f276, f273, (by rw [hT, Int.zero_add]; exact Or.inl P262)⟩
  ·
    have F2278 : Fld Z h0 o "com/example/outpost/outpost/service/split/ExactSum" "count" "I" (.int (1 : Int32)) := by rw [hn] at F2; exact F2
    show own_Go _ _ _ _ _ (State.setTop _ (mkF _ 0 #[.val (.ref o), .val (.double v1), .second] []))
    refine own_aloadN X0 hx 1 rfl (hb hby own_d6_0) rfl rfl ?_
    refine own_getF X0 hx hZ (host := "") hown (Or.inl (own_hw hw 24 rfl)) Via.refl e0 F2278 4 rfl (hb hby own_d6_1) fun T279 X279 e279 => ?_
    refine own_aloadN X279 hx 5 rfl (hb hby own_d6_4) rfl rfl ?_
    refine own_getF X279 hx hZ (host := "") hown (Or.inl (own_hw hw 11 rfl)) Via.refl e279 F1 8 rfl (hb hby own_d6_5) fun T280 X280 e280 => ?_
    refine own_len X280 hx hZ e280 A1 9 rfl (hb hby own_d6_8) ?_
    refine own_icmpYes X280 hx 29 (hb hby own_d6_9) (by decide) (by decide) rfl ?_
    refine own_aloadN X280 hx 30 rfl (hb hby own_d6_29) rfl rfl ?_
    refine own_aloadN X280 hx 31 rfl (hb hby own_d6_30) rfl rfl ?_
    refine own_getF X280 hx hZ (host := "") hown (Or.inl (own_hw hw 11 rfl)) Via.refl e280 F1 34 rfl (hb hby own_d6_31) fun T281 X281 e281 => ?_
    refine own_aloadN X281 hx 35 rfl (hb hby own_d6_34) rfl rfl ?_
    refine own_getF X281 hx hZ (host := "") hown (Or.inl (own_hw hw 24 rfl)) Via.refl e281 F2278 38 rfl (hb hby own_d6_35) fun T282 X282 e282 => ?_
    refine own_dloadN X282 hx 39 rfl (hb hby own_d6_38) rfl ?_
    refine own_callS X282 hx hZ (y := (⟨"com/example/outpost/outpost/service/split/ExactSum", "add", "([DID)I"⟩ : MethodName)) hown (own_hw hw 34 rfl) (own_hw hw 35 rfl) (by decide) (rm_add1 l Z a0 hw [] a k v1 q0 q1 q2 q3 h0 n0 Z0 A1 g_a fv bv f0 (own_z512 hT bt)) (own_hw hw 36 rfl) (own_hw hw 4 rfl) (by decide) e282 (by rw [hml]; rfl) [(.ref a), (.int (1 : Int32)), (.double v1)] 1 (by decide) (Nat.le_of_eq rfl) (by decide) (by decide) (lenOf own_pd0 rfl) rfl rfl 42 rfl (hb hby own_d6_39) fun v283 T283 Lc283 X283 hQ283 => ?_
    obtain ⟨c283, r0283, r1283, r2283, rfl, Nq283, Kq283, Aq283, P283⟩ := hQ283
    have N284 := Fr.app N0 Nq283
    have f285 := E1.keep Kq283
    have f286 := F1.keep Kq283 (ninS ne_oa nin0)
    have f287 := F2278.keep Kq283 (ninS ne_oa nin0)
    have z289 := Nat.le_trans Z0 Kq283.1
    have K290 := K0.trans Kq283 (allS (Or.inl (List.mem_of_getElem? (i := 1) rfl)) all0)
    show own_Go _ _ _ _ _ (State.setTop _ (mkF _ 42 _ [(.int c283), (.ref o)]))
    refine own_putF X283 hx hZ (host := "") hown (Or.inl (own_hw hw 24 rfl)) Via.refl rfl f287 f285 (Or.inl (own_hw hw 25 rfl)) (own_hw hw 3 rfl) (ty := .int) (by decide) rfl rfl 45 rfl (hb hby own_d6_42) fun T291 h291 X291 e291 W291 => ?_
    have f292 := f285.wr W291
    have f293 := f286.other W291 (Or.inr (slot_ne (Or.inl (own_hw hw 12 rfl)) (Or.inl (own_hw hw 25 rfl)) (by decide) (t := (.array .double)) (t' := .int) (by decide) (by decide)))
    have f294 := Aq283.other W291 (Ne.symm ne_oa)
    have z295 := Nat.le_trans z289 (Keep.of_wr W291).1
    have K296 := K290.wr W291 (Or.inl (List.mem_of_getElem? (i := 0) rfl))
    have f297 := f287.same W291
    have N298 := Fr.snoc X291 N284 g_o
    refine own_ret X291 none (fun _ => rfl) Bd.notSynchronized (by decide) (by decide) ?_ (fun fs hr => X291.returnOut hx Bd.returns (hb hby own_d6_45) hr)
    show Q_rm_addB1 Z o v1 a k cn q0 q1 q2 q3 tt h0 n0 _ T291.heap _
    rw [e291]
    exact ⟨rfl, N298, K296, _, _, _, _, f292, f293, f297, f294, (by rw [← hT, Int.add_comm]; exact P283)⟩
theorem own_ef_rm_addB2 (m : MethodId) (o : Addr) (v1 : UInt64) : entryFrame m #[(.ref o), (.double v1)] 3 = mkF m 0 #[.val (.ref o), .val (.double v1), .second] [] := by first | (simp [entryFrame, mkF, argsToLocals, Value.category]; done) | rfl
def Q_rm_addB2 (Z : State) (o : Addr) (v1 : UInt64) (a : Addr) (k : ClassId) (cn : Int32) (q0 : UInt64) (q1 : UInt64) (q2 : UInt64) (q3 : UInt64) (tt : Int) (h0 : Heap) (n0 : Nat) (v : Option Value) (h : Heap) (L : List Loc) : Prop := v = none ∧ Fr n0 L ∧ Keep h0 h [o, a] ∧ ∃ (cn' : Int32) (r0 r1 r2 : UInt64), Exa Z h o "com/example/outpost/outpost/service/split/ExactSum" ∧ Fld Z h o "com/example/outpost/outpost/service/split/ExactSum" "parts" "[D" (.ref a) ∧ Fld Z h o "com/example/outpost/outpost/service/split/ExactSum" "count" "I" (.int cn') ∧ Arv Z h a k .double (4 : Int32) [(.double r0), (.double r1), (.double r2), (.double q3)] (.double (0 : UInt64)) ∧ own_J3 (tt + own_z v1) cn' r0 r1 r2
set_option maxRecDepth 65536 in
set_option maxHeartbeats 40000000 in
theorem rm_addB2 (l : Launch) (Z : State) (a0 : Array Value) (hw : ∀ d ∈ tables_1, d.before a0 Z = true) (ws : List Jvm.Cond) (o : Addr) (v1 : UInt64) (a : Addr) (k : ClassId) (cn : Int32) (q0 : UInt64) (q1 : UInt64) (q2 : UInt64) (q3 : UInt64) (tt : Int) (h0 : Heap) (n0 : Nat) (Z0 : n0 ≤ h0.size) (E1 : Exa Z h0 o "com/example/outpost/outpost/service/split/ExactSum") (F1 : Fld Z h0 o "com/example/outpost/outpost/service/split/ExactSum" "parts" "[D" (.ref a)) (F2 : Fld Z h0 o "com/example/outpost/outpost/service/split/ExactSum" "count" "I" (.int cn)) (A1 : Arv Z h0 a k .double (4 : Int32) [(.double q0), (.double q1), (.double q2), (.double q3)] (.double (0 : UInt64))) (g_o : n0 ≤ o) (g_a : n0 ≤ a) (ne_oa : o ≠ a) (fv : own_F v1) (bv : (own_z v1).natAbs ≤ own_C) (hJ : own_J2 tt cn q0 q1 q2) (bt : tt.natAbs ≤ 2 * own_C) :
    MetFree l (⟨"com/example/outpost/outpost/service/split/ExactSum", "add", "(D)V"⟩ : MethodName) (head1 (Jvm.Cond.code (⟨"com/example/outpost/outpost/service/split/ExactSum", "add", "(D)V"⟩ : MethodName) prog_126_method_3_code 3 none :: ws) ({ frames := 2, cells := 0, slots := 0, locals := 45 } : Room)) (fun aa U => aa = #[(.ref o), (.double v1)] ∧ Z.Warmed39 U.vm ∧ U.heap = h0) (fun _ _ _ _ _ => True) (fun _ U ou U' => ∃ v L, ou = .returned v ∧ Q_rm_addB2 Z o v1 a k cn q0 q1 q2 q3 tt h0 n0 v U'.heap L ∧ FrameEnd U ou U' L ({ frames := 2, cells := 0, slots := 0, locals := 45 } : Room).cells ({ frames := 2, cells := 0, slots := 0, locals := 45 } : Room).slots) := by
  refine MetFree.of_bodySF (plainFor_of_name own_pn0) hisR ?_
  intro p e s m args below meth c s₁ Bd hml0 hP hK
  obtain ⟨rfl, hZ, hh⟩ := hP
  have hx := Bd.exec
  have hby := Bd.bytes
  have hml : c.maxLocals = 3 := hml0
  have hown : s.vm.findClass "com/example/outpost/outpost/service/split/ExactSum" = some m.cls := findClass_of_methodNamed Bd.named
  have hnm := (name_of_methodNamed Bd.named Bd.method).1
  have X0 : Stand p l e ({ frames := 2, cells := 0, slots := 0, locals := 45 } : Room) s m #[(.ref o), (.double v1)] below meth c s₁ [] 0 0 := Stand.of_body Bd
  have e0 : s₁.heap = h0 := by rw [← hh, Bd.state]; rfl
  have N0 := Fr.nil n0
  have K0 := Keep.refl h0 [o, a]
  show own_Go p e below (fun o u L => FrameEnd s o u L ({ frames := 2, cells := 0, slots := 0, locals := 45 } : Room).cells ({ frames := 2, cells := 0, slots := 0, locals := 45 } : Room).slots) (Q_rm_addB2 Z o v1 a k cn q0 q1 q2 q3 tt h0 n0) (s₁.setTop (entryFrame m #[(.ref o), (.double v1)] 3))
  rw [own_ef_rm_addB2 m o v1]
  rcases hJ with (⟨hn, hT⟩ | ⟨hn, f0, hT⟩) | ⟨hn, f0, f1, hs, hr⟩
  ·
    have F2299 : Fld Z h0 o "com/example/outpost/outpost/service/split/ExactSum" "count" "I" (.int (0 : Int32)) := by rw [hn] at F2; exact F2
    show own_Go _ _ _ _ _ (State.setTop _ (mkF _ 0 #[.val (.ref o), .val (.double v1), .second] []))
    refine own_aloadN X0 hx 1 rfl (hb hby own_d6_0) rfl rfl ?_
    refine own_getF X0 hx hZ (host := "") hown (Or.inl (own_hw hw 24 rfl)) Via.refl e0 F2299 4 rfl (hb hby own_d6_1) fun T300 X300 e300 => ?_
    refine own_aloadN X300 hx 5 rfl (hb hby own_d6_4) rfl rfl ?_
    refine own_getF X300 hx hZ (host := "") hown (Or.inl (own_hw hw 11 rfl)) Via.refl e300 F1 8 rfl (hb hby own_d6_5) fun T301 X301 e301 => ?_
    refine own_len X301 hx hZ e301 A1 9 rfl (hb hby own_d6_8) ?_
    refine own_icmpYes X301 hx 29 (hb hby own_d6_9) (by decide) (by decide) rfl ?_
    refine own_aloadN X301 hx 30 rfl (hb hby own_d6_29) rfl rfl ?_
    refine own_aloadN X301 hx 31 rfl (hb hby own_d6_30) rfl rfl ?_
    refine own_getF X301 hx hZ (host := "") hown (Or.inl (own_hw hw 11 rfl)) Via.refl e301 F1 34 rfl (hb hby own_d6_31) fun T302 X302 e302 => ?_
    refine own_aloadN X302 hx 35 rfl (hb hby own_d6_34) rfl rfl ?_
    refine own_getF X302 hx hZ (host := "") hown (Or.inl (own_hw hw 24 rfl)) Via.refl e302 F2299 38 rfl (hb hby own_d6_35) fun T303 X303 e303 => ?_
    refine own_dloadN X303 hx 39 rfl (hb hby own_d6_38) rfl ?_
    refine own_callS X303 hx hZ (y := (⟨"com/example/outpost/outpost/service/split/ExactSum", "add", "([DID)I"⟩ : MethodName)) hown (own_hw hw 34 rfl) (own_hw hw 35 rfl) (by decide) (rm_add0 l Z a0 hw [] a k v1 q0 q1 q2 q3 h0 n0 Z0 A1 g_a fv bv) (own_hw hw 36 rfl) (own_hw hw 4 rfl) (by decide) e303 (by rw [hml]; rfl) [(.ref a), (.int (0 : Int32)), (.double v1)] 1 (by decide) (Nat.le_of_eq rfl) (by decide) (by decide) (lenOf own_pd0 rfl) rfl rfl 42 rfl (hb hby own_d6_39) fun v304 T304 Lc304 X304 hQ304 => ?_
    obtain ⟨c304, r0304, r1304, r2304, rfl, Nq304, Kq304, Aq304, P304⟩ := hQ304
    have N305 := Fr.app N0 Nq304
    have f306 := E1.keep Kq304
    have f307 := F1.keep Kq304 (ninS ne_oa nin0)
    have f308 := F2299.keep Kq304 (ninS ne_oa nin0)
    have z310 := Nat.le_trans Z0 Kq304.1
    have K311 := K0.trans Kq304 (allS (Or.inl (List.mem_of_getElem? (i := 1) rfl)) all0)
    show own_Go _ _ _ _ _ (State.setTop _ (mkF _ 42 _ [(.int c304), (.ref o)]))
    refine own_putF X304 hx hZ (host := "") hown (Or.inl (own_hw hw 24 rfl)) Via.refl rfl f308 f306 (Or.inl (own_hw hw 25 rfl)) (own_hw hw 3 rfl) (ty := .int) (by decide) rfl rfl 45 rfl (hb hby own_d6_42) fun T312 h312 X312 e312 W312 => ?_
    have f313 := f306.wr W312
    have f314 := f307.other W312 (Or.inr (slot_ne (Or.inl (own_hw hw 12 rfl)) (Or.inl (own_hw hw 25 rfl)) (by decide) (t := (.array .double)) (t' := .int) (by decide) (by decide)))
    have f315 := Aq304.other W312 (Ne.symm ne_oa)
    have z316 := Nat.le_trans z310 (Keep.of_wr W312).1
    have K317 := K311.wr W312 (Or.inl (List.mem_of_getElem? (i := 0) rfl))
    have f318 := f308.same W312
    have N319 := Fr.snoc X312 N305 g_o
    refine own_ret X312 none (fun _ => rfl) Bd.notSynchronized (by decide) (by decide) ?_ (fun fs hr => X312.returnOut hx Bd.returns (hb hby own_d6_45) hr)
    show Q_rm_addB2 Z o v1 a k cn q0 q1 q2 q3 tt h0 n0 _ T312.heap _
    rw [e312]
    exact ⟨rfl, N319, K317, _, _, _, _, f313, f314, f318, f315, (by rw [hT, Int.zero_add]; exact Or.inl P304)⟩
  ·
    have F2320 : Fld Z h0 o "com/example/outpost/outpost/service/split/ExactSum" "count" "I" (.int (1 : Int32)) := by rw [hn] at F2; exact F2
    show own_Go _ _ _ _ _ (State.setTop _ (mkF _ 0 #[.val (.ref o), .val (.double v1), .second] []))
    refine own_aloadN X0 hx 1 rfl (hb hby own_d6_0) rfl rfl ?_
    refine own_getF X0 hx hZ (host := "") hown (Or.inl (own_hw hw 24 rfl)) Via.refl e0 F2320 4 rfl (hb hby own_d6_1) fun T321 X321 e321 => ?_
    refine own_aloadN X321 hx 5 rfl (hb hby own_d6_4) rfl rfl ?_
    refine own_getF X321 hx hZ (host := "") hown (Or.inl (own_hw hw 11 rfl)) Via.refl e321 F1 8 rfl (hb hby own_d6_5) fun T322 X322 e322 => ?_
    refine own_len X322 hx hZ e322 A1 9 rfl (hb hby own_d6_8) ?_
    refine own_icmpYes X322 hx 29 (hb hby own_d6_9) (by decide) (by decide) rfl ?_
    refine own_aloadN X322 hx 30 rfl (hb hby own_d6_29) rfl rfl ?_
    refine own_aloadN X322 hx 31 rfl (hb hby own_d6_30) rfl rfl ?_
    refine own_getF X322 hx hZ (host := "") hown (Or.inl (own_hw hw 11 rfl)) Via.refl e322 F1 34 rfl (hb hby own_d6_31) fun T323 X323 e323 => ?_
    refine own_aloadN X323 hx 35 rfl (hb hby own_d6_34) rfl rfl ?_
    refine own_getF X323 hx hZ (host := "") hown (Or.inl (own_hw hw 24 rfl)) Via.refl e323 F2320 38 rfl (hb hby own_d6_35) fun T324 X324 e324 => ?_
    refine own_dloadN X324 hx 39 rfl (hb hby own_d6_38) rfl ?_
    refine own_callS X324 hx hZ (y := (⟨"com/example/outpost/outpost/service/split/ExactSum", "add", "([DID)I"⟩ : MethodName)) hown (own_hw hw 34 rfl) (own_hw hw 35 rfl) (by decide) (rm_add1 l Z a0 hw [] a k v1 q0 q1 q2 q3 h0 n0 Z0 A1 g_a fv bv f0 (own_z512 hT bt)) (own_hw hw 36 rfl) (own_hw hw 4 rfl) (by decide) e324 (by rw [hml]; rfl) [(.ref a), (.int (1 : Int32)), (.double v1)] 1 (by decide) (Nat.le_of_eq rfl) (by decide) (by decide) (lenOf own_pd0 rfl) rfl rfl 42 rfl (hb hby own_d6_39) fun v325 T325 Lc325 X325 hQ325 => ?_
    obtain ⟨c325, r0325, r1325, r2325, rfl, Nq325, Kq325, Aq325, P325⟩ := hQ325
    have N326 := Fr.app N0 Nq325
    have f327 := E1.keep Kq325
    have f328 := F1.keep Kq325 (ninS ne_oa nin0)
    have f329 := F2320.keep Kq325 (ninS ne_oa nin0)
    have z331 := Nat.le_trans Z0 Kq325.1
    have K332 := K0.trans Kq325 (allS (Or.inl (List.mem_of_getElem? (i := 1) rfl)) all0)
    show own_Go _ _ _ _ _ (State.setTop _ (mkF _ 42 _ [(.int c325), (.ref o)]))
    refine own_putF X325 hx hZ (host := "") hown (Or.inl (own_hw hw 24 rfl)) Via.refl rfl f329 f327 (Or.inl (own_hw hw 25 rfl)) (own_hw hw 3 rfl) (ty := .int) (by decide) rfl rfl 45 rfl (hb hby own_d6_42) fun T333 h333 X333 e333 W333 => ?_
    have f334 := f327.wr W333
    have f335 := f328.other W333 (Or.inr (slot_ne (Or.inl (own_hw hw 12 rfl)) (Or.inl (own_hw hw 25 rfl)) (by decide) (t := (.array .double)) (t' := .int) (by decide) (by decide)))
    have f336 := Aq325.other W333 (Ne.symm ne_oa)
    have z337 := Nat.le_trans z331 (Keep.of_wr W333).1
    have K338 := K332.wr W333 (Or.inl (List.mem_of_getElem? (i := 0) rfl))
    have f339 := f329.same W333
    have N340 := Fr.snoc X333 N326 g_o
    refine own_ret X333 none (fun _ => rfl) Bd.notSynchronized (by decide) (by decide) ?_ (fun fs hr => X333.returnOut hx Bd.returns (hb hby own_d6_45) hr)
    show Q_rm_addB2 Z o v1 a k cn q0 q1 q2 q3 tt h0 n0 _ T333.heap _
    rw [e333]
    exact ⟨rfl, N340, K338, _, _, _, _, f334, f335, f339, f336, (by rw [← hT, Int.add_comm]; exact own_J23 P325 (by rw [Int.add_comm, hT]; exact own_bt4 bt bv))⟩
  ·
    have F2341 : Fld Z h0 o "com/example/outpost/outpost/service/split/ExactSum" "count" "I" (.int (2 : Int32)) := by rw [hn] at F2; exact F2
    have qb := own_qb bt hs hr
    show own_Go _ _ _ _ _ (State.setTop _ (mkF _ 0 #[.val (.ref o), .val (.double v1), .second] []))
    refine own_aloadN X0 hx 1 rfl (hb hby own_d6_0) rfl rfl ?_
    refine own_getF X0 hx hZ (host := "") hown (Or.inl (own_hw hw 24 rfl)) Via.refl e0 F2341 4 rfl (hb hby own_d6_1) fun T342 X342 e342 => ?_
    refine own_aloadN X342 hx 5 rfl (hb hby own_d6_4) rfl rfl ?_
    refine own_getF X342 hx hZ (host := "") hown (Or.inl (own_hw hw 11 rfl)) Via.refl e342 F1 8 rfl (hb hby own_d6_5) fun T343 X343 e343 => ?_
    refine own_len X343 hx hZ e343 A1 9 rfl (hb hby own_d6_8) ?_
    refine own_icmpYes X343 hx 29 (hb hby own_d6_9) (by decide) (by decide) rfl ?_
    refine own_aloadN X343 hx 30 rfl (hb hby own_d6_29) rfl rfl ?_
    refine own_aloadN X343 hx 31 rfl (hb hby own_d6_30) rfl rfl ?_
    refine own_getF X343 hx hZ (host := "") hown (Or.inl (own_hw hw 11 rfl)) Via.refl e343 F1 34 rfl (hb hby own_d6_31) fun T344 X344 e344 => ?_
    refine own_aloadN X344 hx 35 rfl (hb hby own_d6_34) rfl rfl ?_
    refine own_getF X344 hx hZ (host := "") hown (Or.inl (own_hw hw 24 rfl)) Via.refl e344 F2341 38 rfl (hb hby own_d6_35) fun T345 X345 e345 => ?_
    refine own_dloadN X345 hx 39 rfl (hb hby own_d6_38) rfl ?_
    refine own_callS X345 hx hZ (y := (⟨"com/example/outpost/outpost/service/split/ExactSum", "add", "([DID)I"⟩ : MethodName)) hown (own_hw hw 34 rfl) (own_hw hw 35 rfl) (by decide) (rm_add2 l Z a0 hw [] a k v1 q0 q1 q2 q3 h0 n0 Z0 A1 g_a fv bv f0 qb.1 f1 qb.2.1 qb.2.2) (own_hw hw 36 rfl) (own_hw hw 4 rfl) (by decide) e345 (by rw [hml]; rfl) [(.ref a), (.int (2 : Int32)), (.double v1)] 1 (by decide) (Nat.le_of_eq rfl) (by decide) (by decide) (lenOf own_pd0 rfl) rfl rfl 42 rfl (hb hby own_d6_39) fun v346 T346 Lc346 X346 hQ346 => ?_
    obtain ⟨c346, r0346, r1346, r2346, rfl, Nq346, Kq346, Aq346, P346⟩ := hQ346
    have N347 := Fr.app N0 Nq346
    have f348 := E1.keep Kq346
    have f349 := F1.keep Kq346 (ninS ne_oa nin0)
    have f350 := F2341.keep Kq346 (ninS ne_oa nin0)
    have z352 := Nat.le_trans Z0 Kq346.1
    have K353 := K0.trans Kq346 (allS (Or.inl (List.mem_of_getElem? (i := 1) rfl)) all0)
    show own_Go _ _ _ _ _ (State.setTop _ (mkF _ 42 _ [(.int c346), (.ref o)]))
    refine own_putF X346 hx hZ (host := "") hown (Or.inl (own_hw hw 24 rfl)) Via.refl rfl f350 f348 (Or.inl (own_hw hw 25 rfl)) (own_hw hw 3 rfl) (ty := .int) (by decide) rfl rfl 45 rfl (hb hby own_d6_42) fun T354 h354 X354 e354 W354 => ?_
    have f355 := f348.wr W354
    have f356 := f349.other W354 (Or.inr (slot_ne (Or.inl (own_hw hw 12 rfl)) (Or.inl (own_hw hw 25 rfl)) (by decide) (t := (.array .double)) (t' := .int) (by decide) (by decide)))
    have f357 := Aq346.other W354 (Ne.symm ne_oa)
    have z358 := Nat.le_trans z352 (Keep.of_wr W354).1
    have K359 := K353.wr W354 (Or.inl (List.mem_of_getElem? (i := 0) rfl))
    have f360 := f350.same W354
    have N361 := Fr.snoc X354 N347 g_o
    refine own_ret X354 none (fun _ => rfl) Bd.notSynchronized (by decide) (by decide) ?_ (fun fs hr => X354.returnOut hx Bd.returns (hb hby own_d6_45) hr)
    show Q_rm_addB2 Z o v1 a k cn q0 q1 q2 q3 tt h0 n0 _ T354.heap _
    rw [e354]
    exact ⟨rfl, N361, K359, _, _, _, _, f355, f356, f360, f357, (own_as hs ▸ P346)⟩
theorem own_pn1 : plainName "com/example/outpost/outpost/service/split/ExactSumRoundedPinLaw" = true := by first | (simp [plainName, overriddenIn]; done) | decide +kernel
theorem own_ef_rm_if0 (m : MethodId) (o : Addr) (fl : Int32) (v1 : UInt64) : entryFrame m #[(.ref o), (.int fl), (.double v1)] 4 = mkF m 0 #[.val (.ref o), .val (.int fl), .val (.double v1), .second] [] := by first | (simp [entryFrame, mkF, argsToLocals, Value.category]; done) | rfl
def Q_rm_if0 (Z : State) (o : Addr) (fl : Int32) (v1 : UInt64) (a : Addr) (k : ClassId) (cn : Int32) (q0 : UInt64) (q1 : UInt64) (q2 : UInt64) (q3 : UInt64) (tt : Int) (h0 : Heap) (n0 : Nat) (v : Option Value) (h : Heap) (L : List Loc) : Prop := v = none ∧ Fr n0 L ∧ Keep h0 h [o, a] ∧ ∃ (cn' : Int32) (r0 r1 r2 : UInt64), Exa Z h o "com/example/outpost/outpost/service/split/ExactSum" ∧ Fld Z h o "com/example/outpost/outpost/service/split/ExactSum" "parts" "[D" (.ref a) ∧ Fld Z h o "com/example/outpost/outpost/service/split/ExactSum" "count" "I" (.int cn') ∧ Arv Z h a k .double (4 : Int32) [(.double r0), (.double r1), (.double r2), (.double q3)] (.double (0 : UInt64)) ∧ own_J1 (tt + own_t fl v1) cn' r0 r1 r2
theorem own_d3_0 : decode method_2_code 0 = .ok (.iload_n 1, 1) := by decide +kernel
theorem own_d3_1 : decode method_2_code 1 = .ok (.ifCond .eq 8, 3) := by decide +kernel
theorem own_d3_9 : decode method_2_code 9 = .ok (.return_, 1) := by decide +kernel
theorem own_d3_4 : decode method_2_code 4 = .ok (.aload_n 0, 1) := by decide +kernel
theorem own_d3_5 : decode method_2_code 5 = .ok (.dload_n 2, 1) := by decide +kernel
theorem own_d3_6 : decode method_2_code 6 = .ok (.invokevirtual 7, 3) := by decide +kernel
theorem own_pd1 : parseMethodDescriptor "(D)V" = some ⟨[.double], none⟩ := by decide +kernel
set_option maxRecDepth 65536 in
set_option maxHeartbeats 40000000 in
theorem rm_if0 (l : Launch) (Z : State) (a0 : Array Value) (hw : ∀ d ∈ tables_1, d.before a0 Z = true) (ws : List Jvm.Cond) (o : Addr) (fl : Int32) (v1 : UInt64) (a : Addr) (k : ClassId) (cn : Int32) (q0 : UInt64) (q1 : UInt64) (q2 : UInt64) (q3 : UInt64) (tt : Int) (h0 : Heap) (n0 : Nat) (Z0 : n0 ≤ h0.size) (E1 : Exa Z h0 o "com/example/outpost/outpost/service/split/ExactSum") (F1 : Fld Z h0 o "com/example/outpost/outpost/service/split/ExactSum" "parts" "[D" (.ref a)) (F2 : Fld Z h0 o "com/example/outpost/outpost/service/split/ExactSum" "count" "I" (.int cn)) (A1 : Arv Z h0 a k .double (4 : Int32) [(.double q0), (.double q1), (.double q2), (.double q3)] (.double (0 : UInt64))) (g_o : n0 ≤ o) (g_a : n0 ≤ a) (ne_oa : o ≠ a) (fv : own_F v1) (bv : (own_z v1).natAbs ≤ own_C) (hJ : own_J0 tt cn q0 q1 q2) (bt : tt.natAbs ≤ 2 * own_C) :
    MetFree l (⟨"com/example/outpost/outpost/service/split/ExactSumRoundedPinLaw", "addIf", "(Lcom/example/outpost/outpost/service/split/ExactSum;ZD)V"⟩ : MethodName) (head1 (Jvm.Cond.code (⟨"com/example/outpost/outpost/service/split/ExactSumRoundedPinLaw", "addIf", "(Lcom/example/outpost/outpost/service/split/ExactSum;ZD)V"⟩ : MethodName) method_2_code 4 none :: ws) ({ frames := 3, cells := 0, slots := 0, locals := 65 } : Room)) (fun aa U => aa = #[(.ref o), (.int fl), (.double v1)] ∧ Z.Warmed39 U.vm ∧ U.heap = h0) (fun _ _ _ _ _ => True) (fun _ U ou U' => ∃ v L, ou = .returned v ∧ Q_rm_if0 Z o fl v1 a k cn q0 q1 q2 q3 tt h0 n0 v U'.heap L ∧ FrameEnd U ou U' L ({ frames := 3, cells := 0, slots := 0, locals := 65 } : Room).cells ({ frames := 3, cells := 0, slots := 0, locals := 65 } : Room).slots) := by
  refine MetFree.of_bodySF (plainFor_of_name own_pn1) hisR ?_
  intro p e s m args below meth c s₁ Bd hml0 hP hK
  obtain ⟨rfl, hZ, hh⟩ := hP
  have hx := Bd.exec
  have hby := Bd.bytes
  have hml : c.maxLocals = 4 := hml0
  have hown : s.vm.findClass "com/example/outpost/outpost/service/split/ExactSumRoundedPinLaw" = some m.cls := findClass_of_methodNamed Bd.named
  have hnm := (name_of_methodNamed Bd.named Bd.method).1
  have X0 : Stand p l e ({ frames := 3, cells := 0, slots := 0, locals := 65 } : Room) s m #[(.ref o), (.int fl), (.double v1)] below meth c s₁ [] 0 0 := Stand.of_body Bd
  have e0 : s₁.heap = h0 := by rw [← hh, Bd.state]; rfl
  have N0 := Fr.nil n0
  have K0 := Keep.refl h0 [o, a]
  show own_Go p e below (fun o u L => FrameEnd s o u L ({ frames := 3, cells := 0, slots := 0, locals := 65 } : Room).cells ({ frames := 3, cells := 0, slots := 0, locals := 65 } : Room).slots) (Q_rm_if0 Z o fl v1 a k cn q0 q1 q2 q3 tt h0 n0) (s₁.setTop (entryFrame m #[(.ref o), (.int fl), (.double v1)] 4))
  rw [own_ef_rm_if0 m o fl v1]
  show own_Go _ _ _ _ _ (State.setTop _ (mkF _ 0 #[.val (.ref o), .val (.int fl), .val (.double v1), .second] []))
  refine own_iloadN X0 hx 1 rfl (hb hby own_d3_0) rfl ?_
  by_cases hc362 : fl = (0 : Int32)
  ·
    refine own_ifYes X0 hx 9 (hb hby own_d3_1) ((if0 _ _).trans (teq hc362).1) (by decide) rfl ?_
    refine own_ret X0 none (fun _ => rfl) Bd.notSynchronized (by decide) (by decide) ?_ (fun fs hr => X0.returnOut hx Bd.returns (hb hby own_d3_9) hr)
    show Q_rm_if0 Z o fl v1 a k cn q0 q1 q2 q3 tt h0 n0 _ s₁.heap _
    rw [e0]
    exact ⟨rfl, N0, K0, _, _, _, _, E1, F1, F2, A1, (by rw [own_t0 hc362, Int.add_zero]; exact own_J01 hJ bt)⟩
  ·
    refine own_ifNo X0 hx 4 rfl (hb hby own_d3_1) ((if0 _ _).trans (feq hc362).1) ?_
    refine own_aloadN X0 hx 5 rfl (hb hby own_d3_4) rfl rfl ?_
    refine own_dloadN X0 hx 6 rfl (hb hby own_d3_5) rfl ?_
    refine own_virtual X0 hx hZ (y := (⟨"com/example/outpost/outpost/service/split/ExactSum", "add", "(D)V"⟩ : MethodName)) (z := (⟨"com/example/outpost/outpost/service/split/ExactSum", "add", "(D)V"⟩ : MethodName)) hown (own_hw hw 29 rfl) (own_hw hw 30 rfl) (own_hw hw 32 rfl) (own_hw hw 31 rfl) rfl (a := o) E1 (by decide) (rm_addB0 l Z a0 hw [] o v1 a k cn q0 q1 q2 q3 tt h0 n0 Z0 E1 F1 F2 A1 g_o g_a ne_oa fv bv hJ bt) (own_hw hw 33 rfl) (own_hw hw 4 rfl) (by decide) e0 (by rw [hml]; rfl) [(.double v1)] 0 (by decide) (Nat.le_of_eq rfl) (by decide) (by decide) (lenOf own_pd1 rfl) rfl rfl 9 rfl (hb hby own_d3_6) fun v363 T363 Lc363 X363 hQ363 => ?_
    obtain ⟨rfl, Nq363, Kq363, c363, r0363, r1363, r2363, f364, f365, f366, f367, P363⟩ := hQ363
    have N368 := Fr.app N0 Nq363
    have f369 := E1.keep Kq363
    have z373 := Nat.le_trans Z0 Kq363.1
    have K374 := K0.trans Kq363 (allS (Or.inl (List.mem_of_getElem? (i := 0) rfl)) (allS (Or.inl (List.mem_of_getElem? (i := 1) rfl)) all0))
    show own_Go _ _ _ _ _ (State.setTop _ (mkF _ 9 _ []))
    refine own_ret X363 none (fun _ => rfl) Bd.notSynchronized (by decide) (by decide) ?_ (fun fs hr => X363.returnOut hx Bd.returns (hb hby own_d3_9) hr)
    show Q_rm_if0 Z o fl v1 a k cn q0 q1 q2 q3 tt h0 n0 _ T363.heap _
    exact ⟨rfl, N368, K374, _, _, _, _, f364, f365, f366, f367, (by rw [own_t1 hc362]; exact P363)⟩
theorem own_ef_rm_if1 (m : MethodId) (o : Addr) (fl : Int32) (v1 : UInt64) : entryFrame m #[(.ref o), (.int fl), (.double v1)] 4 = mkF m 0 #[.val (.ref o), .val (.int fl), .val (.double v1), .second] [] := by first | (simp [entryFrame, mkF, argsToLocals, Value.category]; done) | rfl
def Q_rm_if1 (Z : State) (o : Addr) (fl : Int32) (v1 : UInt64) (a : Addr) (k : ClassId) (cn : Int32) (q0 : UInt64) (q1 : UInt64) (q2 : UInt64) (q3 : UInt64) (tt : Int) (h0 : Heap) (n0 : Nat) (v : Option Value) (h : Heap) (L : List Loc) : Prop := v = none ∧ Fr n0 L ∧ Keep h0 h [o, a] ∧ ∃ (cn' : Int32) (r0 r1 r2 : UInt64), Exa Z h o "com/example/outpost/outpost/service/split/ExactSum" ∧ Fld Z h o "com/example/outpost/outpost/service/split/ExactSum" "parts" "[D" (.ref a) ∧ Fld Z h o "com/example/outpost/outpost/service/split/ExactSum" "count" "I" (.int cn') ∧ Arv Z h a k .double (4 : Int32) [(.double r0), (.double r1), (.double r2), (.double q3)] (.double (0 : UInt64)) ∧ own_J2 (tt + own_t fl v1) cn' r0 r1 r2
set_option maxRecDepth 65536 in
set_option maxHeartbeats 40000000 in
theorem rm_if1 (l : Launch) (Z : State) (a0 : Array Value) (hw : ∀ d ∈ tables_1, d.before a0 Z = true) (ws : List Jvm.Cond) (o : Addr) (fl : Int32) (v1 : UInt64) (a : Addr) (k : ClassId) (cn : Int32) (q0 : UInt64) (q1 : UInt64) (q2 : UInt64) (q3 : UInt64) (tt : Int) (h0 : Heap) (n0 : Nat) (Z0 : n0 ≤ h0.size) (E1 : Exa Z h0 o "com/example/outpost/outpost/service/split/ExactSum") (F1 : Fld Z h0 o "com/example/outpost/outpost/service/split/ExactSum" "parts" "[D" (.ref a)) (F2 : Fld Z h0 o "com/example/outpost/outpost/service/split/ExactSum" "count" "I" (.int cn)) (A1 : Arv Z h0 a k .double (4 : Int32) [(.double q0), (.double q1), (.double q2), (.double q3)] (.double (0 : UInt64))) (g_o : n0 ≤ o) (g_a : n0 ≤ a) (ne_oa : o ≠ a) (fv : own_F v1) (bv : (own_z v1).natAbs ≤ own_C) (hJ : own_J1 tt cn q0 q1 q2) (bt : tt.natAbs ≤ 2 * own_C) :
    MetFree l (⟨"com/example/outpost/outpost/service/split/ExactSumRoundedPinLaw", "addIf", "(Lcom/example/outpost/outpost/service/split/ExactSum;ZD)V"⟩ : MethodName) (head1 (Jvm.Cond.code (⟨"com/example/outpost/outpost/service/split/ExactSumRoundedPinLaw", "addIf", "(Lcom/example/outpost/outpost/service/split/ExactSum;ZD)V"⟩ : MethodName) method_2_code 4 none :: ws) ({ frames := 3, cells := 0, slots := 0, locals := 65 } : Room)) (fun aa U => aa = #[(.ref o), (.int fl), (.double v1)] ∧ Z.Warmed39 U.vm ∧ U.heap = h0) (fun _ _ _ _ _ => True) (fun _ U ou U' => ∃ v L, ou = .returned v ∧ Q_rm_if1 Z o fl v1 a k cn q0 q1 q2 q3 tt h0 n0 v U'.heap L ∧ FrameEnd U ou U' L ({ frames := 3, cells := 0, slots := 0, locals := 65 } : Room).cells ({ frames := 3, cells := 0, slots := 0, locals := 65 } : Room).slots) := by
  refine MetFree.of_bodySF (plainFor_of_name own_pn1) hisR ?_
  intro p e s m args below meth c s₁ Bd hml0 hP hK
  obtain ⟨rfl, hZ, hh⟩ := hP
  have hx := Bd.exec
  have hby := Bd.bytes
  have hml : c.maxLocals = 4 := hml0
  have hown : s.vm.findClass "com/example/outpost/outpost/service/split/ExactSumRoundedPinLaw" = some m.cls := findClass_of_methodNamed Bd.named
  have hnm := (name_of_methodNamed Bd.named Bd.method).1
  have X0 : Stand p l e ({ frames := 3, cells := 0, slots := 0, locals := 65 } : Room) s m #[(.ref o), (.int fl), (.double v1)] below meth c s₁ [] 0 0 := Stand.of_body Bd
  have e0 : s₁.heap = h0 := by rw [← hh, Bd.state]; rfl
  have N0 := Fr.nil n0
  have K0 := Keep.refl h0 [o, a]
  show own_Go p e below (fun o u L => FrameEnd s o u L ({ frames := 3, cells := 0, slots := 0, locals := 65 } : Room).cells ({ frames := 3, cells := 0, slots := 0, locals := 65 } : Room).slots) (Q_rm_if1 Z o fl v1 a k cn q0 q1 q2 q3 tt h0 n0) (s₁.setTop (entryFrame m #[(.ref o), (.int fl), (.double v1)] 4))
  rw [own_ef_rm_if1 m o fl v1]
  show own_Go _ _ _ _ _ (State.setTop _ (mkF _ 0 #[.val (.ref o), .val (.int fl), .val (.double v1), .second] []))
  refine own_iloadN X0 hx 1 rfl (hb hby own_d3_0) rfl ?_
  by_cases hc375 : fl = (0 : Int32)
  ·
    refine own_ifYes X0 hx 9 (hb hby own_d3_1) ((if0 _ _).trans (teq hc375).1) (by decide) rfl ?_
    refine own_ret X0 none (fun _ => rfl) Bd.notSynchronized (by decide) (by decide) ?_ (fun fs hr => X0.returnOut hx Bd.returns (hb hby own_d3_9) hr)
    show Q_rm_if1 Z o fl v1 a k cn q0 q1 q2 q3 tt h0 n0 _ s₁.heap _
    rw [e0]
    exact ⟨rfl, N0, K0, _, _, _, _, E1, F1, F2, A1, (by rw [own_t0 hc375, Int.add_zero]; exact own_J12 hJ bt)⟩
  ·
    refine own_ifNo X0 hx 4 rfl (hb hby own_d3_1) ((if0 _ _).trans (feq hc375).1) ?_
    refine own_aloadN X0 hx 5 rfl (hb hby own_d3_4) rfl rfl ?_
    refine own_dloadN X0 hx 6 rfl (hb hby own_d3_5) rfl ?_
    refine own_virtual X0 hx hZ (y := (⟨"com/example/outpost/outpost/service/split/ExactSum", "add", "(D)V"⟩ : MethodName)) (z := (⟨"com/example/outpost/outpost/service/split/ExactSum", "add", "(D)V"⟩ : MethodName)) hown (own_hw hw 29 rfl) (own_hw hw 30 rfl) (own_hw hw 32 rfl) (own_hw hw 31 rfl) rfl (a := o) E1 (by decide) (rm_addB1 l Z a0 hw [] o v1 a k cn q0 q1 q2 q3 tt h0 n0 Z0 E1 F1 F2 A1 g_o g_a ne_oa fv bv hJ bt) (own_hw hw 33 rfl) (own_hw hw 4 rfl) (by decide) e0 (by rw [hml]; rfl) [(.double v1)] 0 (by decide) (Nat.le_of_eq rfl) (by decide) (by decide) (lenOf own_pd1 rfl) rfl rfl 9 rfl (hb hby own_d3_6) fun v376 T376 Lc376 X376 hQ376 => ?_
    obtain ⟨rfl, Nq376, Kq376, c376, r0376, r1376, r2376, f377, f378, f379, f380, P376⟩ := hQ376
    have N381 := Fr.app N0 Nq376
    have f382 := E1.keep Kq376
    have z386 := Nat.le_trans Z0 Kq376.1
    have K387 := K0.trans Kq376 (allS (Or.inl (List.mem_of_getElem? (i := 0) rfl)) (allS (Or.inl (List.mem_of_getElem? (i := 1) rfl)) all0))
    show own_Go _ _ _ _ _ (State.setTop _ (mkF _ 9 _ []))
    refine own_ret X376 none (fun _ => rfl) Bd.notSynchronized (by decide) (by decide) ?_ (fun fs hr => X376.returnOut hx Bd.returns (hb hby own_d3_9) hr)
    show Q_rm_if1 Z o fl v1 a k cn q0 q1 q2 q3 tt h0 n0 _ T376.heap _
    exact ⟨rfl, N381, K387, _, _, _, _, f377, f378, f379, f380, (by rw [own_t1 hc375]; exact P376)⟩
theorem own_ef_rm_if2 (m : MethodId) (o : Addr) (fl : Int32) (v1 : UInt64) : entryFrame m #[(.ref o), (.int fl), (.double v1)] 4 = mkF m 0 #[.val (.ref o), .val (.int fl), .val (.double v1), .second] [] := by first | (simp [entryFrame, mkF, argsToLocals, Value.category]; done) | rfl
def Q_rm_if2 (Z : State) (o : Addr) (fl : Int32) (v1 : UInt64) (a : Addr) (k : ClassId) (cn : Int32) (q0 : UInt64) (q1 : UInt64) (q2 : UInt64) (q3 : UInt64) (tt : Int) (h0 : Heap) (n0 : Nat) (v : Option Value) (h : Heap) (L : List Loc) : Prop := v = none ∧ Fr n0 L ∧ Keep h0 h [o, a] ∧ ∃ (cn' : Int32) (r0 r1 r2 : UInt64), Exa Z h o "com/example/outpost/outpost/service/split/ExactSum" ∧ Fld Z h o "com/example/outpost/outpost/service/split/ExactSum" "parts" "[D" (.ref a) ∧ Fld Z h o "com/example/outpost/outpost/service/split/ExactSum" "count" "I" (.int cn') ∧ Arv Z h a k .double (4 : Int32) [(.double r0), (.double r1), (.double r2), (.double q3)] (.double (0 : UInt64)) ∧ own_J3 (tt + own_t fl v1) cn' r0 r1 r2
set_option maxRecDepth 65536 in
set_option maxHeartbeats 40000000 in
theorem rm_if2 (l : Launch) (Z : State) (a0 : Array Value) (hw : ∀ d ∈ tables_1, d.before a0 Z = true) (ws : List Jvm.Cond) (o : Addr) (fl : Int32) (v1 : UInt64) (a : Addr) (k : ClassId) (cn : Int32) (q0 : UInt64) (q1 : UInt64) (q2 : UInt64) (q3 : UInt64) (tt : Int) (h0 : Heap) (n0 : Nat) (Z0 : n0 ≤ h0.size) (E1 : Exa Z h0 o "com/example/outpost/outpost/service/split/ExactSum") (F1 : Fld Z h0 o "com/example/outpost/outpost/service/split/ExactSum" "parts" "[D" (.ref a)) (F2 : Fld Z h0 o "com/example/outpost/outpost/service/split/ExactSum" "count" "I" (.int cn)) (A1 : Arv Z h0 a k .double (4 : Int32) [(.double q0), (.double q1), (.double q2), (.double q3)] (.double (0 : UInt64))) (g_o : n0 ≤ o) (g_a : n0 ≤ a) (ne_oa : o ≠ a) (fv : own_F v1) (bv : (own_z v1).natAbs ≤ own_C) (hJ : own_J2 tt cn q0 q1 q2) (bt : tt.natAbs ≤ 2 * own_C) :
    MetFree l (⟨"com/example/outpost/outpost/service/split/ExactSumRoundedPinLaw", "addIf", "(Lcom/example/outpost/outpost/service/split/ExactSum;ZD)V"⟩ : MethodName) (head1 (Jvm.Cond.code (⟨"com/example/outpost/outpost/service/split/ExactSumRoundedPinLaw", "addIf", "(Lcom/example/outpost/outpost/service/split/ExactSum;ZD)V"⟩ : MethodName) method_2_code 4 none :: ws) ({ frames := 3, cells := 0, slots := 0, locals := 65 } : Room)) (fun aa U => aa = #[(.ref o), (.int fl), (.double v1)] ∧ Z.Warmed39 U.vm ∧ U.heap = h0) (fun _ _ _ _ _ => True) (fun _ U ou U' => ∃ v L, ou = .returned v ∧ Q_rm_if2 Z o fl v1 a k cn q0 q1 q2 q3 tt h0 n0 v U'.heap L ∧ FrameEnd U ou U' L ({ frames := 3, cells := 0, slots := 0, locals := 65 } : Room).cells ({ frames := 3, cells := 0, slots := 0, locals := 65 } : Room).slots) := by
  refine MetFree.of_bodySF (plainFor_of_name own_pn1) hisR ?_
  intro p e s m args below meth c s₁ Bd hml0 hP hK
  obtain ⟨rfl, hZ, hh⟩ := hP
  have hx := Bd.exec
  have hby := Bd.bytes
  have hml : c.maxLocals = 4 := hml0
  have hown : s.vm.findClass "com/example/outpost/outpost/service/split/ExactSumRoundedPinLaw" = some m.cls := findClass_of_methodNamed Bd.named
  have hnm := (name_of_methodNamed Bd.named Bd.method).1
  have X0 : Stand p l e ({ frames := 3, cells := 0, slots := 0, locals := 65 } : Room) s m #[(.ref o), (.int fl), (.double v1)] below meth c s₁ [] 0 0 := Stand.of_body Bd
  have e0 : s₁.heap = h0 := by rw [← hh, Bd.state]; rfl
  have N0 := Fr.nil n0
  have K0 := Keep.refl h0 [o, a]
  show own_Go p e below (fun o u L => FrameEnd s o u L ({ frames := 3, cells := 0, slots := 0, locals := 65 } : Room).cells ({ frames := 3, cells := 0, slots := 0, locals := 65 } : Room).slots) (Q_rm_if2 Z o fl v1 a k cn q0 q1 q2 q3 tt h0 n0) (s₁.setTop (entryFrame m #[(.ref o), (.int fl), (.double v1)] 4))
  rw [own_ef_rm_if2 m o fl v1]
  show own_Go _ _ _ _ _ (State.setTop _ (mkF _ 0 #[.val (.ref o), .val (.int fl), .val (.double v1), .second] []))
  refine own_iloadN X0 hx 1 rfl (hb hby own_d3_0) rfl ?_
  by_cases hc388 : fl = (0 : Int32)
  ·
    refine own_ifYes X0 hx 9 (hb hby own_d3_1) ((if0 _ _).trans (teq hc388).1) (by decide) rfl ?_
    refine own_ret X0 none (fun _ => rfl) Bd.notSynchronized (by decide) (by decide) ?_ (fun fs hr => X0.returnOut hx Bd.returns (hb hby own_d3_9) hr)
    show Q_rm_if2 Z o fl v1 a k cn q0 q1 q2 q3 tt h0 n0 _ s₁.heap _
    rw [e0]
    exact ⟨rfl, N0, K0, _, _, _, _, E1, F1, F2, A1, (by rw [own_t0 hc388, Int.add_zero]; exact own_J23 hJ (own_bt5 bt))⟩
  ·
    refine own_ifNo X0 hx 4 rfl (hb hby own_d3_1) ((if0 _ _).trans (feq hc388).1) ?_
    refine own_aloadN X0 hx 5 rfl (hb hby own_d3_4) rfl rfl ?_
    refine own_dloadN X0 hx 6 rfl (hb hby own_d3_5) rfl ?_
    refine own_virtual X0 hx hZ (y := (⟨"com/example/outpost/outpost/service/split/ExactSum", "add", "(D)V"⟩ : MethodName)) (z := (⟨"com/example/outpost/outpost/service/split/ExactSum", "add", "(D)V"⟩ : MethodName)) hown (own_hw hw 29 rfl) (own_hw hw 30 rfl) (own_hw hw 32 rfl) (own_hw hw 31 rfl) rfl (a := o) E1 (by decide) (rm_addB2 l Z a0 hw [] o v1 a k cn q0 q1 q2 q3 tt h0 n0 Z0 E1 F1 F2 A1 g_o g_a ne_oa fv bv hJ bt) (own_hw hw 33 rfl) (own_hw hw 4 rfl) (by decide) e0 (by rw [hml]; rfl) [(.double v1)] 0 (by decide) (Nat.le_of_eq rfl) (by decide) (by decide) (lenOf own_pd1 rfl) rfl rfl 9 rfl (hb hby own_d3_6) fun v389 T389 Lc389 X389 hQ389 => ?_
    obtain ⟨rfl, Nq389, Kq389, c389, r0389, r1389, r2389, f390, f391, f392, f393, P389⟩ := hQ389
    have N394 := Fr.app N0 Nq389
    have f395 := E1.keep Kq389
    have z399 := Nat.le_trans Z0 Kq389.1
    have K400 := K0.trans Kq389 (allS (Or.inl (List.mem_of_getElem? (i := 0) rfl)) (allS (Or.inl (List.mem_of_getElem? (i := 1) rfl)) all0))
    show own_Go _ _ _ _ _ (State.setTop _ (mkF _ 9 _ []))
    refine own_ret X389 none (fun _ => rfl) Bd.notSynchronized (by decide) (by decide) ?_ (fun fs hr => X389.returnOut hx Bd.returns (hb hby own_d3_9) hr)
    show Q_rm_if2 Z o fl v1 a k cn q0 q1 q2 q3 tt h0 n0 _ T389.heap _
    exact ⟨rfl, N394, K400, _, _, _, _, f390, f391, f392, f393, (by rw [own_t1 hc388]; exact P389)⟩
theorem own_R2 {q0 q1 : UInt64} (f0 : own_F q0) (f1 : own_F q1) (b0 : (own_z q0).natAbs ≤ 512 * own_C) (b1 : (own_z q1).natAbs ≤ 512 * own_C) : own_F (FP.dadd q1 q0) ∧ own_F (FP.dsub (FP.dadd q1 q0) q1) ∧ own_F (FP.dsub q0 (FP.dsub (FP.dadd q1 q0) q1)) ∧ own_z (FP.dadd q1 q0) = own_rn (own_z q0 + own_z q1) := by
  have CB := own_CB
  have e : own_z (FP.dadd q1 q0) = own_rn (own_z q1 + own_z q0) := own_dadd_rn f1 f0
  have fs : own_F (FP.dadd q1 q0) := own_dadd_fin f1 f0 (by omega)
  have bs := own_rn_bd (m := 1024) (T := own_z q1 + own_z q0) (by decide) (by omega)
  rw [← e] at bs
  have e2 : own_z (FP.dsub (FP.dadd q1 q0) q1) = own_rn (own_z (FP.dadd q1 q0) - own_z q1) := own_dsub_rn fs f1
  have fd : own_F (FP.dsub (FP.dadd q1 q0) q1) := own_dsub_fin fs f1 (by omega)
  have bd := own_rn_bd (m := 1536) (T := own_z (FP.dadd q1 q0) - own_z q1) (by decide) (by omega)
  rw [← e2] at bd
  exact ⟨fs, fd, own_dsub_fin f0 fd (by omega), by rw [e, Int.add_comm]⟩
theorem own_ef_rm_round0 (m : MethodId) (a : Addr) : entryFrame m #[(.ref a), (.int (0 : Int32))] 11 = mkF m 0 #[.val (.ref a), .val (.int (0 : Int32)), .unset, .unset, .unset, .unset, .unset, .unset, .unset, .unset, .unset] [] := by first | (simp [entryFrame, mkF, argsToLocals, Value.category]; done) | rfl
def Q_rm_round0 (Z : State) (a : Addr) (k : ClassId) (q0 : UInt64) (q1 : UInt64) (q2 : UInt64) (q3 : UInt64) (tt : Int) (h0 : Heap) (n0 : Nat) (v : Option Value) (h : Heap) (L : List Loc) : Prop := ∃ dd : UInt64, v = some (.double dd) ∧ Fr n0 L ∧ h = h0 ∧ own_F dd ∧ own_z dd = own_rn tt
theorem own_d5_0 : decode prog_126_method_7_code 0 = .ok (.iload_n 1, 1) := by decide +kernel
theorem own_d5_1 : decode prog_126_method_7_code 1 = .ok (.ifCond .ne 5, 3) := by decide +kernel
theorem own_d5_4 : decode prog_126_method_7_code 4 = .ok (.dconst 0, 1) := by decide +kernel
theorem own_d5_5 : decode prog_126_method_7_code 5 = .ok (.dreturn, 1) := by decide +kernel
set_option maxRecDepth 65536 in
set_option maxHeartbeats 40000000 in
theorem rm_round0 (l : Launch) (Z : State) (a0 : Array Value) (hw : ∀ d ∈ tables_1, d.before a0 Z = true) (ws : List Jvm.Cond) (a : Addr) (k : ClassId) (q0 : UInt64) (q1 : UInt64) (q2 : UInt64) (q3 : UInt64) (tt : Int) (h0 : Heap) (n0 : Nat) (Z0 : n0 ≤ h0.size) (A1 : Arv Z h0 a k .double (4 : Int32) [(.double q0), (.double q1), (.double q2), (.double q3)] (.double (0 : UInt64))) (hT : tt = 0) :
    MetFree l (⟨"com/example/outpost/outpost/service/split/ExactSum", "rounded", "([DI)D"⟩ : MethodName) (head1 (Jvm.Cond.code (⟨"com/example/outpost/outpost/service/split/ExactSum", "rounded", "([DI)D"⟩ : MethodName) prog_126_method_7_code 11 (some .double) :: ws) ({ frames := 0, cells := 0, slots := 0, locals := 0 } : Room)) (fun aa U => aa = #[(.ref a), (.int (0 : Int32))] ∧ Z.Warmed39 U.vm ∧ U.heap = h0) (fun _ _ _ _ _ => True) (fun _ U ou U' => ∃ v L, ou = .returned v ∧ Q_rm_round0 Z a k q0 q1 q2 q3 tt h0 n0 v U'.heap L ∧ FrameEnd U ou U' L ({ frames := 0, cells := 0, slots := 0, locals := 0 } : Room).cells ({ frames := 0, cells := 0, slots := 0, locals := 0 } : Room).slots) := by
  refine MetFree.of_bodySF (plainFor_of_name own_pn0) hisR ?_
  intro p e s m args below meth c s₁ Bd hml0 hP hK
  obtain ⟨rfl, hZ, hh⟩ := hP
  have hx := Bd.exec
  have hby := Bd.bytes
  have hml : c.maxLocals = 11 := hml0
  have hown : s.vm.findClass "com/example/outpost/outpost/service/split/ExactSum" = some m.cls := findClass_of_methodNamed Bd.named
  have hnm := (name_of_methodNamed Bd.named Bd.method).1
  have X0 : Stand p l e ({ frames := 0, cells := 0, slots := 0, locals := 0 } : Room) s m #[(.ref a), (.int (0 : Int32))] below meth c s₁ [] 0 0 := Stand.of_body Bd
  have e0 : s₁.heap = h0 := by rw [← hh, Bd.state]; rfl
  have N0 := Fr.nil n0
  show own_Go p e below (fun o u L => FrameEnd s o u L ({ frames := 0, cells := 0, slots := 0, locals := 0 } : Room).cells ({ frames := 0, cells := 0, slots := 0, locals := 0 } : Room).slots) (Q_rm_round0 Z a k q0 q1 q2 q3 tt h0 n0) (s₁.setTop (entryFrame m #[(.ref a), (.int (0 : Int32))] 11))
  rw [own_ef_rm_round0 m a]
  show own_Go _ _ _ _ _ (State.setTop _ (mkF _ 0 #[.val (.ref a), .val (.int (0 : Int32)), .unset, .unset, .unset, .unset, .unset, .unset, .unset, .unset, .unset] []))
  refine own_iloadN X0 hx 1 rfl (hb hby own_d5_0) rfl ?_
  refine own_ifNo X0 hx 4 rfl (hb hby own_d5_1) (by decide) ?_
  refine own_dconst0 X0 hx 5 rfl (hb hby own_d5_4) ?_
  refine own_ret X0 (some (.double FP.dconst0)) (fun h => by rw [Bd.returns] at h; cases h) Bd.notSynchronized (by decide) (by decide) ?_ (fun fs hr => own_retD X0 hx Bd.returns (hb hby own_d5_5) hr)
  show Q_rm_round0 Z a k q0 q1 q2 q3 tt h0 n0 _ s₁.heap _
  rw [e0]
  exact ⟨_, rfl, N0, rfl, own_f0, (by rw [own_z0, hT, own_rn_exact own_rep0])⟩
theorem own_ef_rm_round1 (m : MethodId) (a : Addr) : entryFrame m #[(.ref a), (.int (1 : Int32))] 11 = mkF m 0 #[.val (.ref a), .val (.int (1 : Int32)), .unset, .unset, .unset, .unset, .unset, .unset, .unset, .unset, .unset] [] := by first | (simp [entryFrame, mkF, argsToLocals, Value.category]; done) | rfl
def Q_rm_round1 (Z : State) (a : Addr) (k : ClassId) (q0 : UInt64) (q1 : UInt64) (q2 : UInt64) (q3 : UInt64) (tt : Int) (h0 : Heap) (n0 : Nat) (v : Option Value) (h : Heap) (L : List Loc) : Prop := ∃ dd : UInt64, v = some (.double dd) ∧ Fr n0 L ∧ h = h0 ∧ own_F dd ∧ own_z dd = own_rn tt
theorem own_d5_6 : decode prog_126_method_7_code 6 = .ok (.iload_n 1, 1) := by decide +kernel
theorem own_d5_7 : decode prog_126_method_7_code 7 = .ok (.iconst 1, 1) := by decide +kernel
theorem own_d5_8 : decode prog_126_method_7_code 8 = .ok (.isub, 1) := by decide +kernel
theorem own_d5_9 : decode prog_126_method_7_code 9 = .ok (.istore_n 2, 1) := by decide +kernel
theorem own_d5_10 : decode prog_126_method_7_code 10 = .ok (.aload_n 0, 1) := by decide +kernel
theorem own_d5_11 : decode prog_126_method_7_code 11 = .ok (.iload_n 2, 1) := by decide +kernel
theorem own_d5_12 : decode prog_126_method_7_code 12 = .ok (.daload, 1) := by decide +kernel
theorem own_d5_13 : decode prog_126_method_7_code 13 = .ok (.dstore_n 3, 1) := by decide +kernel
theorem own_d5_14 : decode prog_126_method_7_code 14 = .ok (.dconst 0, 1) := by decide +kernel
theorem own_d5_15 : decode prog_126_method_7_code 15 = .ok (.dstore 5, 2) := by decide +kernel
theorem own_d5_17 : decode prog_126_method_7_code 17 = .ok (.iload_n 2, 1) := by decide +kernel
theorem own_d5_18 : decode prog_126_method_7_code 18 = .ok (.ifCond .le 42, 3) := by decide +kernel
theorem own_d5_60 : decode prog_126_method_7_code 60 = .ok (.iload_n 2, 1) := by decide +kernel
theorem own_d5_61 : decode prog_126_method_7_code 61 = .ok (.ifCond .le 37, 3) := by decide +kernel
theorem own_d5_98 : decode prog_126_method_7_code 98 = .ok (.iconst 0, 1) := by decide +kernel
theorem own_d5_99 : decode prog_126_method_7_code 99 = .ok (.istore 7, 2) := by decide +kernel
theorem own_d5_101 : decode prog_126_method_7_code 101 = .ok (.iload 7, 2) := by decide +kernel
theorem own_d5_103 : decode prog_126_method_7_code 103 = .ok (.ifCond .eq 30, 3) := by decide +kernel
theorem own_d5_133 : decode prog_126_method_7_code 133 = .ok (.dload_n 3, 1) := by decide +kernel
theorem own_d5_134 : decode prog_126_method_7_code 134 = .ok (.dreturn, 1) := by decide +kernel
set_option maxRecDepth 65536 in
set_option maxHeartbeats 40000000 in
theorem rm_round1 (l : Launch) (Z : State) (a0 : Array Value) (hw : ∀ d ∈ tables_1, d.before a0 Z = true) (ws : List Jvm.Cond) (a : Addr) (k : ClassId) (q0 : UInt64) (q1 : UInt64) (q2 : UInt64) (q3 : UInt64) (tt : Int) (h0 : Heap) (n0 : Nat) (Z0 : n0 ≤ h0.size) (A1 : Arv Z h0 a k .double (4 : Int32) [(.double q0), (.double q1), (.double q2), (.double q3)] (.double (0 : UInt64))) (f0 : own_F q0) (hT : own_z q0 = tt) :
    MetFree l (⟨"com/example/outpost/outpost/service/split/ExactSum", "rounded", "([DI)D"⟩ : MethodName) (head1 (Jvm.Cond.code (⟨"com/example/outpost/outpost/service/split/ExactSum", "rounded", "([DI)D"⟩ : MethodName) prog_126_method_7_code 11 (some .double) :: ws) ({ frames := 0, cells := 0, slots := 0, locals := 0 } : Room)) (fun aa U => aa = #[(.ref a), (.int (1 : Int32))] ∧ Z.Warmed39 U.vm ∧ U.heap = h0) (fun _ _ _ _ _ => True) (fun _ U ou U' => ∃ v L, ou = .returned v ∧ Q_rm_round1 Z a k q0 q1 q2 q3 tt h0 n0 v U'.heap L ∧ FrameEnd U ou U' L ({ frames := 0, cells := 0, slots := 0, locals := 0 } : Room).cells ({ frames := 0, cells := 0, slots := 0, locals := 0 } : Room).slots) := by
  refine MetFree.of_bodySF (plainFor_of_name own_pn0) hisR ?_
  intro p e s m args below meth c s₁ Bd hml0 hP hK
  obtain ⟨rfl, hZ, hh⟩ := hP
  have hx := Bd.exec
  have hby := Bd.bytes
  have hml : c.maxLocals = 11 := hml0
  have hown : s.vm.findClass "com/example/outpost/outpost/service/split/ExactSum" = some m.cls := findClass_of_methodNamed Bd.named
  have hnm := (name_of_methodNamed Bd.named Bd.method).1
  have X0 : Stand p l e ({ frames := 0, cells := 0, slots := 0, locals := 0 } : Room) s m #[(.ref a), (.int (1 : Int32))] below meth c s₁ [] 0 0 := Stand.of_body Bd
  have e0 : s₁.heap = h0 := by rw [← hh, Bd.state]; rfl
  have N0 := Fr.nil n0
  show own_Go p e below (fun o u L => FrameEnd s o u L ({ frames := 0, cells := 0, slots := 0, locals := 0 } : Room).cells ({ frames := 0, cells := 0, slots := 0, locals := 0 } : Room).slots) (Q_rm_round1 Z a k q0 q1 q2 q3 tt h0 n0) (s₁.setTop (entryFrame m #[(.ref a), (.int (1 : Int32))] 11))
  rw [own_ef_rm_round1 m a]
  show own_Go _ _ _ _ _ (State.setTop _ (mkF _ 0 #[.val (.ref a), .val (.int (1 : Int32)), .unset, .unset, .unset, .unset, .unset, .unset, .unset, .unset, .unset] []))
  refine own_iloadN X0 hx 1 rfl (hb hby own_d5_0) rfl ?_
  refine own_ifYes X0 hx 6 (hb hby own_d5_1) (by decide) (by decide) rfl ?_
  refine own_iloadN X0 hx 7 rfl (hb hby own_d5_6) rfl ?_
  refine own_iconst X0 hx 8 rfl (hb hby own_d5_7) (1 : Int32) rfl ?_
  refine own_isub X0 hx 9 rfl (hb hby own_d5_8) (0 : Int32) rfl ?_
  refine own_istoreN X0 hx 10 rfl (hb hby own_d5_9) #[.val (.ref a), .val (.int (1 : Int32)), .val (.int (0 : Int32)), .unset, .unset, .unset, .unset, .unset, .unset, .unset, .unset] rfl ?_
  refine own_aloadN X0 hx 11 rfl (hb hby own_d5_10) rfl rfl ?_
  refine own_iloadN X0 hx 12 rfl (hb hby own_d5_11) rfl ?_
  refine own_ldD X0 hx hZ e0 A1 ⟨by decide, by decide⟩ q0 rfl 13 rfl (hb hby own_d5_12) ?_
  refine own_dstoreN X0 hx 14 rfl (hb hby own_d5_13) #[.val (.ref a), .val (.int (1 : Int32)), .val (.int (0 : Int32)), .val (.double q0), .second, .unset, .unset, .unset, .unset, .unset, .unset] rfl ?_
  refine own_dconst0 X0 hx 15 rfl (hb hby own_d5_14) ?_
  refine own_dstore X0 hx 17 rfl (hb hby own_d5_15) #[.val (.ref a), .val (.int (1 : Int32)), .val (.int (0 : Int32)), .val (.double q0), .second, .val (.double FP.dconst0), .second, .unset, .unset, .unset, .unset] rfl ?_
  refine own_iloadN X0 hx 18 rfl (hb hby own_d5_17) rfl ?_
  refine own_ifYes X0 hx 60 (hb hby own_d5_18) (by decide) (by decide) rfl ?_
  refine own_iloadN X0 hx 61 rfl (hb hby own_d5_60) rfl ?_
  refine own_ifYes X0 hx 98 (hb hby own_d5_61) (by decide) (by decide) rfl ?_
  refine own_iconst X0 hx 99 rfl (hb hby own_d5_98) (0 : Int32) rfl ?_
  refine own_istore X0 hx 101 rfl (hb hby own_d5_99) #[.val (.ref a), .val (.int (1 : Int32)), .val (.int (0 : Int32)), .val (.double q0), .second, .val (.double FP.dconst0), .second, .val (.int (0 : Int32)), .unset, .unset, .unset] rfl ?_
  refine own_iload X0 hx 103 rfl (hb hby own_d5_101) rfl ?_
  refine own_ifYes X0 hx 133 (hb hby own_d5_103) (by decide) (by decide) rfl ?_
  refine own_dloadN X0 hx 134 rfl (hb hby own_d5_133) rfl ?_
  refine own_ret X0 (some (.double q0)) (fun h => by rw [Bd.returns] at h; cases h) Bd.notSynchronized (by decide) (by decide) ?_ (fun fs hr => own_retD X0 hx Bd.returns (hb hby own_d5_134) hr)
  show Q_rm_round1 Z a k q0 q1 q2 q3 tt h0 n0 _ s₁.heap _
  rw [e0]
  exact ⟨_, rfl, N0, rfl, f0, (by rw [← hT]; exact (own_rn_exact (own_rep_fin f0)).symm)⟩
theorem own_ef_rm_round2 (m : MethodId) (a : Addr) : entryFrame m #[(.ref a), (.int (2 : Int32))] 11 = mkF m 0 #[.val (.ref a), .val (.int (2 : Int32)), .unset, .unset, .unset, .unset, .unset, .unset, .unset, .unset, .unset] [] := by first | (simp [entryFrame, mkF, argsToLocals, Value.category]; done) | rfl
def Q_rm_round2 (Z : State) (a : Addr) (k : ClassId) (q0 : UInt64) (q1 : UInt64) (q2 : UInt64) (q3 : UInt64) (tt : Int) (h0 : Heap) (n0 : Nat) (v : Option Value) (h : Heap) (L : List Loc) : Prop := ∃ dd : UInt64, v = some (.double dd) ∧ Fr n0 L ∧ h = h0 ∧ own_F dd ∧ own_z dd = own_rn tt
theorem own_d5_21 : decode prog_126_method_7_code 21 = .ok (.aload_n 0, 1) := by decide +kernel
theorem own_d5_22 : decode prog_126_method_7_code 22 = .ok (.iinc 2 (-1), 3) := by decide +kernel
theorem own_d5_25 : decode prog_126_method_7_code 25 = .ok (.iload_n 2, 1) := by decide +kernel
theorem own_d5_26 : decode prog_126_method_7_code 26 = .ok (.daload, 1) := by decide +kernel
theorem own_d5_27 : decode prog_126_method_7_code 27 = .ok (.dstore 7, 2) := by decide +kernel
theorem own_d5_29 : decode prog_126_method_7_code 29 = .ok (.dload_n 3, 1) := by decide +kernel
theorem own_d5_30 : decode prog_126_method_7_code 30 = .ok (.dload 7, 2) := by decide +kernel
theorem own_d5_32 : decode prog_126_method_7_code 32 = .ok (.dadd, 1) := by decide +kernel
theorem own_d5_33 : decode prog_126_method_7_code 33 = .ok (.dstore 9, 2) := by decide +kernel
theorem own_d5_35 : decode prog_126_method_7_code 35 = .ok (.dload 7, 2) := by decide +kernel
theorem own_d5_37 : decode prog_126_method_7_code 37 = .ok (.dload 9, 2) := by decide +kernel
theorem own_d5_39 : decode prog_126_method_7_code 39 = .ok (.dload_n 3, 1) := by decide +kernel
theorem own_d5_40 : decode prog_126_method_7_code 40 = .ok (.dsub, 1) := by decide +kernel
theorem own_d5_41 : decode prog_126_method_7_code 41 = .ok (.dsub, 1) := by decide +kernel
theorem own_d5_42 : decode prog_126_method_7_code 42 = .ok (.dstore 5, 2) := by decide +kernel
theorem own_d5_44 : decode prog_126_method_7_code 44 = .ok (.dload 9, 2) := by decide +kernel
theorem own_d5_46 : decode prog_126_method_7_code 46 = .ok (.dstore_n 3, 1) := by decide +kernel
theorem own_d5_47 : decode prog_126_method_7_code 47 = .ok (.dload 5, 2) := by decide +kernel
theorem own_d5_49 : decode prog_126_method_7_code 49 = .ok (.dconst 0, 1) := by decide +kernel
theorem own_d5_50 : decode prog_126_method_7_code 50 = .ok (.dcmp .l, 1) := by decide +kernel
theorem own_d5_51 : decode prog_126_method_7_code 51 = .ok (.ifCond .eq 6, 3) := by decide +kernel
theorem own_d5_57 : decode prog_126_method_7_code 57 = .ok (.goto (-40), 3) := by decide +kernel
theorem own_d5_54 : decode prog_126_method_7_code 54 = .ok (.goto 6, 3) := by decide +kernel
set_option maxRecDepth 65536 in
set_option maxHeartbeats 40000000 in
theorem rm_round2 (l : Launch) (Z : State) (a0 : Array Value) (hw : ∀ d ∈ tables_1, d.before a0 Z = true) (ws : List Jvm.Cond) (a : Addr) (k : ClassId) (q0 : UInt64) (q1 : UInt64) (q2 : UInt64) (q3 : UInt64) (tt : Int) (h0 : Heap) (n0 : Nat) (Z0 : n0 ≤ h0.size) (A1 : Arv Z h0 a k .double (4 : Int32) [(.double q0), (.double q1), (.double q2), (.double q3)] (.double (0 : UInt64))) (f0 : own_F q0) (f1 : own_F q1) (hT : own_z q0 + own_z q1 = tt) (b0 : (own_z q0).natAbs ≤ 512 * own_C) (b1 : (own_z q1).natAbs ≤ 512 * own_C) :
    MetFree l (⟨"com/example/outpost/outpost/service/split/ExactSum", "rounded", "([DI)D"⟩ : MethodName) (head1 (Jvm.Cond.code (⟨"com/example/outpost/outpost/service/split/ExactSum", "rounded", "([DI)D"⟩ : MethodName) prog_126_method_7_code 11 (some .double) :: ws) ({ frames := 0, cells := 0, slots := 0, locals := 0 } : Room)) (fun aa U => aa = #[(.ref a), (.int (2 : Int32))] ∧ Z.Warmed39 U.vm ∧ U.heap = h0) (fun _ _ _ _ _ => True) (fun _ U ou U' => ∃ v L, ou = .returned v ∧ Q_rm_round2 Z a k q0 q1 q2 q3 tt h0 n0 v U'.heap L ∧ FrameEnd U ou U' L ({ frames := 0, cells := 0, slots := 0, locals := 0 } : Room).cells ({ frames := 0, cells := 0, slots := 0, locals := 0 } : Room).slots) := by
  refine MetFree.of_bodySF (plainFor_of_name own_pn0) hisR ?_
  intro p e s m args below meth c s₁ Bd hml0 hP hK
  obtain ⟨rfl, hZ, hh⟩ := hP
  have hx := Bd.exec
  have hby := Bd.bytes
  have hml : c.maxLocals = 11 := hml0
  have hown : s.vm.findClass "com/example/outpost/outpost/service/split/ExactSum" = some m.cls := findClass_of_methodNamed Bd.named
  have hnm := (name_of_methodNamed Bd.named Bd.method).1
  have X0 : Stand p l e ({ frames := 0, cells := 0, slots := 0, locals := 0 } : Room) s m #[(.ref a), (.int (2 : Int32))] below meth c s₁ [] 0 0 := Stand.of_body Bd
  have e0 : s₁.heap = h0 := by rw [← hh, Bd.state]; rfl
  have N0 := Fr.nil n0
  show own_Go p e below (fun o u L => FrameEnd s o u L ({ frames := 0, cells := 0, slots := 0, locals := 0 } : Room).cells ({ frames := 0, cells := 0, slots := 0, locals := 0 } : Room).slots) (Q_rm_round2 Z a k q0 q1 q2 q3 tt h0 n0) (s₁.setTop (entryFrame m #[(.ref a), (.int (2 : Int32))] 11))
  rw [own_ef_rm_round2 m a]
  have k2 := own_R2 f0 f1 b0 b1
  show own_Go _ _ _ _ _ (State.setTop _ (mkF _ 0 #[.val (.ref a), .val (.int (2 : Int32)), .unset, .unset, .unset, .unset, .unset, .unset, .unset, .unset, .unset] []))
  refine own_iloadN X0 hx 1 rfl (hb hby own_d5_0) rfl ?_
  refine own_ifYes X0 hx 6 (hb hby own_d5_1) (by decide) (by decide) rfl ?_
  refine own_iloadN X0 hx 7 rfl (hb hby own_d5_6) rfl ?_
  refine own_iconst X0 hx 8 rfl (hb hby own_d5_7) (1 : Int32) rfl ?_
  refine own_isub X0 hx 9 rfl (hb hby own_d5_8) (1 : Int32) rfl ?_
  refine own_istoreN X0 hx 10 rfl (hb hby own_d5_9) #[.val (.ref a), .val (.int (2 : Int32)), .val (.int (1 : Int32)), .unset, .unset, .unset, .unset, .unset, .unset, .unset, .unset] rfl ?_
  refine own_aloadN X0 hx 11 rfl (hb hby own_d5_10) rfl rfl ?_
  refine own_iloadN X0 hx 12 rfl (hb hby own_d5_11) rfl ?_
  refine own_ldD X0 hx hZ e0 A1 ⟨by decide, by decide⟩ q1 rfl 13 rfl (hb hby own_d5_12) ?_
  refine own_dstoreN X0 hx 14 rfl (hb hby own_d5_13) #[.val (.ref a), .val (.int (2 : Int32)), .val (.int (1 : Int32)), .val (.double q1), .second, .unset, .unset, .unset, .unset, .unset, .unset] rfl ?_
  refine own_dconst0 X0 hx 15 rfl (hb hby own_d5_14) ?_
  refine own_dstore X0 hx 17 rfl (hb hby own_d5_15) #[.val (.ref a), .val (.int (2 : Int32)), .val (.int (1 : Int32)), .val (.double q1), .second, .val (.double FP.dconst0), .second, .unset, .unset, .unset, .unset] rfl ?_
  refine own_iloadN X0 hx 18 rfl (hb hby own_d5_17) rfl ?_
  refine own_ifNo X0 hx 21 rfl (hb hby own_d5_18) (by decide) ?_
  refine own_aloadN X0 hx 22 rfl (hb hby own_d5_21) rfl rfl ?_
  refine own_iinc X0 hx 25 rfl (hb hby own_d5_22) rfl #[.val (.ref a), .val (.int (2 : Int32)), .val (.int (0 : Int32)), .val (.double q1), .second, .val (.double FP.dconst0), .second, .unset, .unset, .unset, .unset] rfl ?_
  refine own_iloadN X0 hx 26 rfl (hb hby own_d5_25) rfl ?_
  refine own_ldD X0 hx hZ e0 A1 ⟨by decide, by decide⟩ q0 rfl 27 rfl (hb hby own_d5_26) ?_
  refine own_dstore X0 hx 29 rfl (hb hby own_d5_27) #[.val (.ref a), .val (.int (2 : Int32)), .val (.int (0 : Int32)), .val (.double q1), .second, .val (.double FP.dconst0), .second, .val (.double q0), .second, .unset, .unset] rfl ?_
  refine own_dloadN X0 hx 30 rfl (hb hby own_d5_29) rfl ?_
  refine own_dload X0 hx 32 rfl (hb hby own_d5_30) rfl ?_
  refine own_dadd X0 hx 33 rfl (hb hby own_d5_32) (own_nf k2.1) _ rfl ?_
  refine own_dstore X0 hx 35 rfl (hb hby own_d5_33) #[.val (.ref a), .val (.int (2 : Int32)), .val (.int (0 : Int32)), .val (.double q1), .second, .val (.double FP.dconst0), .second, .val (.double q0), .second, .val (.double (FP.dadd q1 q0)), .second] rfl ?_
  refine own_dload X0 hx 37 rfl (hb hby own_d5_35) rfl ?_
  refine own_dload X0 hx 39 rfl (hb hby own_d5_37) rfl ?_
  refine own_dloadN X0 hx 40 rfl (hb hby own_d5_39) rfl ?_
  refine own_dsub X0 hx 41 rfl (hb hby own_d5_40) (own_nf k2.2.1) _ rfl ?_
  refine own_dsub X0 hx 42 rfl (hb hby own_d5_41) (own_nf k2.2.2.1) _ rfl ?_
  refine own_dstore X0 hx 44 rfl (hb hby own_d5_42) #[.val (.ref a), .val (.int (2 : Int32)), .val (.int (0 : Int32)), .val (.double q1), .second, .val (.double (FP.dsub q0 (FP.dsub (FP.dadd q1 q0) q1))), .second, .val (.double q0), .second, .val (.double (FP.dadd q1 q0)), .second] rfl ?_
  refine own_dload X0 hx 46 rfl (hb hby own_d5_44) rfl ?_
  refine own_dstoreN X0 hx 47 rfl (hb hby own_d5_46) #[.val (.ref a), .val (.int (2 : Int32)), .val (.int (0 : Int32)), .val (.double (FP.dadd q1 q0)), .second, .val (.double (FP.dsub q0 (FP.dsub (FP.dadd q1 q0) q1))), .second, .val (.double q0), .second, .val (.double (FP.dadd q1 q0)), .second] rfl ?_
  refine own_dload X0 hx 49 rfl (hb hby own_d5_47) rfl ?_
  refine own_dconst0 X0 hx 50 rfl (hb hby own_d5_49) ?_
  refine own_dcmp X0 hx 51 rfl (hb hby own_d5_50) _ rfl ?_
  by_cases hc401 : cmpValue (FP.dcmp (FP.dsub q0 (FP.dsub (FP.dadd q1 q0) q1)) FP.dconst0) .l = 0
  ·
    refine own_ifYes X0 hx 57 (hb hby own_d5_51) ((if0 _ _).trans (teq hc401).1) (by decide) rfl ?_
    refine own_goto X0 hx 17 (hb hby own_d5_57) (by decide) rfl ?_
    refine own_iloadN X0 hx 18 rfl (hb hby own_d5_17) rfl ?_
    refine own_ifYes X0 hx 60 (hb hby own_d5_18) (by decide) (by decide) rfl ?_
    refine own_iloadN X0 hx 61 rfl (hb hby own_d5_60) rfl ?_
    refine own_ifYes X0 hx 98 (hb hby own_d5_61) (by decide) (by decide) rfl ?_
    refine own_iconst X0 hx 99 rfl (hb hby own_d5_98) (0 : Int32) rfl ?_
    refine own_istore X0 hx 101 rfl (hb hby own_d5_99) #[.val (.ref a), .val (.int (2 : Int32)), .val (.int (0 : Int32)), .val (.double (FP.dadd q1 q0)), .second, .val (.double (FP.dsub q0 (FP.dsub (FP.dadd q1 q0) q1))), .second, .val (.int (0 : Int32)), .unset, .val (.double (FP.dadd q1 q0)), .second] rfl ?_
    refine own_iload X0 hx 103 rfl (hb hby own_d5_101) rfl ?_
    refine own_ifYes X0 hx 133 (hb hby own_d5_103) (by decide) (by decide) rfl ?_
    refine own_dloadN X0 hx 134 rfl (hb hby own_d5_133) rfl ?_
    refine own_ret X0 (some (.double (FP.dadd q1 q0))) (fun h => by rw [Bd.returns] at h; cases h) Bd.notSynchronized (by decide) (by decide) ?_ (fun fs hr => own_retD X0 hx Bd.returns (hb hby own_d5_134) hr)
    show Q_rm_round2 Z a k q0 q1 q2 q3 tt h0 n0 _ s₁.heap _
    rw [e0]
    exact ⟨_, rfl, N0, rfl, k2.1, (by rw [← hT]; exact k2.2.2.2)⟩
  ·
    refine own_ifNo X0 hx 54 rfl (hb hby own_d5_51) ((if0 _ _).trans (feq hc401).1) ?_
    refine own_goto X0 hx 60 (hb hby own_d5_54) (by decide) rfl ?_
    refine own_iloadN X0 hx 61 rfl (hb hby own_d5_60) rfl ?_
    refine own_ifYes X0 hx 98 (hb hby own_d5_61) (by decide) (by decide) rfl ?_
    refine own_iconst X0 hx 99 rfl (hb hby own_d5_98) (0 : Int32) rfl ?_
    refine own_istore X0 hx 101 rfl (hb hby own_d5_99) #[.val (.ref a), .val (.int (2 : Int32)), .val (.int (0 : Int32)), .val (.double (FP.dadd q1 q0)), .second, .val (.double (FP.dsub q0 (FP.dsub (FP.dadd q1 q0) q1))), .second, .val (.int (0 : Int32)), .unset, .val (.double (FP.dadd q1 q0)), .second] rfl ?_
    refine own_iload X0 hx 103 rfl (hb hby own_d5_101) rfl ?_
    refine own_ifYes X0 hx 133 (hb hby own_d5_103) (by decide) (by decide) rfl ?_
    refine own_dloadN X0 hx 134 rfl (hb hby own_d5_133) rfl ?_
    refine own_ret X0 (some (.double (FP.dadd q1 q0))) (fun h => by rw [Bd.returns] at h; cases h) Bd.notSynchronized (by decide) (by decide) ?_ (fun fs hr => own_retD X0 hx Bd.returns (hb hby own_d5_134) hr)
    show Q_rm_round2 Z a k q0 q1 q2 q3 tt h0 n0 _ s₁.heap _
    rw [e0]
    exact ⟨_, rfl, N0, rfl, k2.1, (by rw [← hT]; exact k2.2.2.2)⟩
theorem own_ef_rm_round3 (m : MethodId) (a : Addr) : entryFrame m #[(.ref a), (.int (3 : Int32))] 11 = mkF m 0 #[.val (.ref a), .val (.int (3 : Int32)), .unset, .unset, .unset, .unset, .unset, .unset, .unset, .unset, .unset] [] := by first | (simp [entryFrame, mkF, argsToLocals, Value.category]; done) | rfl
def Q_rm_round3 (Z : State) (a : Addr) (k : ClassId) (q0 : UInt64) (q1 : UInt64) (q2 : UInt64) (q3 : UInt64) (tt : Int) (h0 : Heap) (n0 : Nat) (v : Option Value) (h : Heap) (L : List Loc) : Prop := ∃ dd : UInt64, v = some (.double dd) ∧ Fr n0 L ∧ h = h0 ∧ own_F dd ∧ own_z dd = own_rn tt
theorem own_d5_106 : decode prog_126_method_7_code 106 = .ok (.dload_n 3, 1) := by decide +kernel
theorem own_d5_107 : decode prog_126_method_7_code 107 = .ok (.ldc2_w 46, 3) := by decide +kernel
theorem own_d5_110 : decode prog_126_method_7_code 110 = .ok (.dload 5, 2) := by decide +kernel
theorem own_d5_112 : decode prog_126_method_7_code 112 = .ok (.dmul, 1) := by decide +kernel
theorem own_d5_113 : decode prog_126_method_7_code 113 = .ok (.dadd, 1) := by decide +kernel
theorem own_d5_114 : decode prog_126_method_7_code 114 = .ok (.dstore 8, 2) := by decide +kernel
theorem own_d5_116 : decode prog_126_method_7_code 116 = .ok (.dload 8, 2) := by decide +kernel
theorem own_d5_118 : decode prog_126_method_7_code 118 = .ok (.dload_n 3, 1) := by decide +kernel
theorem own_d5_119 : decode prog_126_method_7_code 119 = .ok (.dsub, 1) := by decide +kernel
theorem own_d5_120 : decode prog_126_method_7_code 120 = .ok (.ldc2_w 46, 3) := by decide +kernel
theorem own_d5_123 : decode prog_126_method_7_code 123 = .ok (.dload 5, 2) := by decide +kernel
theorem own_d5_125 : decode prog_126_method_7_code 125 = .ok (.dmul, 1) := by decide +kernel
theorem own_d5_126 : decode prog_126_method_7_code 126 = .ok (.dcmp .l, 1) := by decide +kernel
theorem own_d5_127 : decode prog_126_method_7_code 127 = .ok (.ifCond .ne 6, 3) := by decide +kernel
theorem own_d5_130 : decode prog_126_method_7_code 130 = .ok (.dload 8, 2) := by decide +kernel
theorem own_d5_132 : decode prog_126_method_7_code 132 = .ok (.dstore_n 3, 1) := by decide +kernel
theorem own_d5_64 : decode prog_126_method_7_code 64 = .ok (.dload 5, 2) := by decide +kernel
theorem own_d5_66 : decode prog_126_method_7_code 66 = .ok (.dconst 0, 1) := by decide +kernel
theorem own_d5_67 : decode prog_126_method_7_code 67 = .ok (.dcmp .g, 1) := by decide +kernel
theorem own_d5_68 : decode prog_126_method_7_code 68 = .ok (.ifCond .ge 16, 3) := by decide +kernel
theorem own_d5_71 : decode prog_126_method_7_code 71 = .ok (.aload_n 0, 1) := by decide +kernel
theorem own_d5_72 : decode prog_126_method_7_code 72 = .ok (.iload_n 2, 1) := by decide +kernel
theorem own_d5_73 : decode prog_126_method_7_code 73 = .ok (.iconst 1, 1) := by decide +kernel
theorem own_d5_74 : decode prog_126_method_7_code 74 = .ok (.isub, 1) := by decide +kernel
theorem own_d5_75 : decode prog_126_method_7_code 75 = .ok (.daload, 1) := by decide +kernel
theorem own_d5_76 : decode prog_126_method_7_code 76 = .ok (.dconst 0, 1) := by decide +kernel
theorem own_d5_77 : decode prog_126_method_7_code 77 = .ok (.dcmp .g, 1) := by decide +kernel
theorem own_d5_78 : decode prog_126_method_7_code 78 = .ok (.ifCond .ge 20, 3) := by decide +kernel
theorem own_d5_81 : decode prog_126_method_7_code 81 = .ok (.goto 13, 3) := by decide +kernel
theorem own_d5_94 : decode prog_126_method_7_code 94 = .ok (.iconst 1, 1) := by decide +kernel
theorem own_d5_95 : decode prog_126_method_7_code 95 = .ok (.goto 4, 3) := by decide +kernel
theorem own_d5_84 : decode prog_126_method_7_code 84 = .ok (.aload_n 0, 1) := by decide +kernel
theorem own_d5_85 : decode prog_126_method_7_code 85 = .ok (.iload_n 2, 1) := by decide +kernel
theorem own_d5_86 : decode prog_126_method_7_code 86 = .ok (.iconst 1, 1) := by decide +kernel
theorem own_d5_87 : decode prog_126_method_7_code 87 = .ok (.isub, 1) := by decide +kernel
theorem own_d5_88 : decode prog_126_method_7_code 88 = .ok (.daload, 1) := by decide +kernel
theorem own_d5_89 : decode prog_126_method_7_code 89 = .ok (.dconst 0, 1) := by decide +kernel
theorem own_d5_90 : decode prog_126_method_7_code 90 = .ok (.dcmp .l, 1) := by decide +kernel
theorem own_d5_91 : decode prog_126_method_7_code 91 = .ok (.ifCond .le 7, 3) := by decide +kernel
set_option maxRecDepth 65536 in
set_option maxHeartbeats 40000000 in
theorem rm_round3 (l : Launch) (Z : State) (a0 : Array Value) (hw : ∀ d ∈ tables_1, d.before a0 Z = true) (ws : List Jvm.Cond) (a : Addr) (k : ClassId) (q0 : UInt64) (q1 : UInt64) (q2 : UInt64) (q3 : UInt64) (tt : Int) (h0 : Heap) (n0 : Nat) (Z0 : n0 ≤ h0.size) (A1 : Arv Z h0 a k .double (4 : Int32) [(.double q0), (.double q1), (.double q2), (.double q3)] (.double (0 : UInt64))) (hE : own_E3 q0 q1 q2) (hT : own_z q0 + own_z q1 + own_z q2 = tt) :
    MetFree l (⟨"com/example/outpost/outpost/service/split/ExactSum", "rounded", "([DI)D"⟩ : MethodName) (head1 (Jvm.Cond.code (⟨"com/example/outpost/outpost/service/split/ExactSum", "rounded", "([DI)D"⟩ : MethodName) prog_126_method_7_code 11 (some .double) :: ws) ({ frames := 0, cells := 0, slots := 0, locals := 0 } : Room)) (fun aa U => aa = #[(.ref a), (.int (3 : Int32))] ∧ Z.Warmed39 U.vm ∧ U.heap = h0) (fun _ _ _ _ _ => True) (fun _ U ou U' => ∃ v L, ou = .returned v ∧ Q_rm_round3 Z a k q0 q1 q2 q3 tt h0 n0 v U'.heap L ∧ FrameEnd U ou U' L ({ frames := 0, cells := 0, slots := 0, locals := 0 } : Room).cells ({ frames := 0, cells := 0, slots := 0, locals := 0 } : Room).slots) := by
  refine MetFree.of_bodySF (plainFor_of_name own_pn0) hisR ?_
  intro p e s m args below meth c s₁ Bd hml0 hP hK
  obtain ⟨rfl, hZ, hh⟩ := hP
  have hx := Bd.exec
  have hby := Bd.bytes
  have hml : c.maxLocals = 11 := hml0
  have hown : s.vm.findClass "com/example/outpost/outpost/service/split/ExactSum" = some m.cls := findClass_of_methodNamed Bd.named
  have hnm := (name_of_methodNamed Bd.named Bd.method).1
  have X0 : Stand p l e ({ frames := 0, cells := 0, slots := 0, locals := 0 } : Room) s m #[(.ref a), (.int (3 : Int32))] below meth c s₁ [] 0 0 := Stand.of_body Bd
  have e0 : s₁.heap = h0 := by rw [← hh, Bd.state]; rfl
  have N0 := Fr.nil n0
  show own_Go p e below (fun o u L => FrameEnd s o u L ({ frames := 0, cells := 0, slots := 0, locals := 0 } : Room).cells ({ frames := 0, cells := 0, slots := 0, locals := 0 } : Room).slots) (Q_rm_round3 Z a k q0 q1 q2 q3 tt h0 n0) (s₁.setTop (entryFrame m #[(.ref a), (.int (3 : Int32))] 11))
  rw [own_ef_rm_round3 m a]
  have k3 := own_s3 hE
  have lo0 : ¬ cmpValue (FP.dcmp (FP.dsub q1 (FP.dsub (FP.dadd q2 q1) q2)) FP.dconst0) .l = 0 := fun q => hE.2.2.2.2.1 (k3.2.2.2.symm.trans ((own_sgEq k3.2.2.1 .l).mp q))
  show own_Go _ _ _ _ _ (State.setTop _ (mkF _ 0 #[.val (.ref a), .val (.int (3 : Int32)), .unset, .unset, .unset, .unset, .unset, .unset, .unset, .unset, .unset] []))
  refine own_iloadN X0 hx 1 rfl (hb hby own_d5_0) rfl ?_
  refine own_ifYes X0 hx 6 (hb hby own_d5_1) (by decide) (by decide) rfl ?_
  refine own_iloadN X0 hx 7 rfl (hb hby own_d5_6) rfl ?_
  refine own_iconst X0 hx 8 rfl (hb hby own_d5_7) (1 : Int32) rfl ?_
  refine own_isub X0 hx 9 rfl (hb hby own_d5_8) (2 : Int32) rfl ?_
  refine own_istoreN X0 hx 10 rfl (hb hby own_d5_9) #[.val (.ref a), .val (.int (3 : Int32)), .val (.int (2 : Int32)), .unset, .unset, .unset, .unset, .unset, .unset, .unset, .unset] rfl ?_
  refine own_aloadN X0 hx 11 rfl (hb hby own_d5_10) rfl rfl ?_
  refine own_iloadN X0 hx 12 rfl (hb hby own_d5_11) rfl ?_
  refine own_ldD X0 hx hZ e0 A1 ⟨by decide, by decide⟩ q2 rfl 13 rfl (hb hby own_d5_12) ?_
  refine own_dstoreN X0 hx 14 rfl (hb hby own_d5_13) #[.val (.ref a), .val (.int (3 : Int32)), .val (.int (2 : Int32)), .val (.double q2), .second, .unset, .unset, .unset, .unset, .unset, .unset] rfl ?_
  refine own_dconst0 X0 hx 15 rfl (hb hby own_d5_14) ?_
  refine own_dstore X0 hx 17 rfl (hb hby own_d5_15) #[.val (.ref a), .val (.int (3 : Int32)), .val (.int (2 : Int32)), .val (.double q2), .second, .val (.double FP.dconst0), .second, .unset, .unset, .unset, .unset] rfl ?_
  refine own_iloadN X0 hx 18 rfl (hb hby own_d5_17) rfl ?_
  refine own_ifNo X0 hx 21 rfl (hb hby own_d5_18) (by decide) ?_
  refine own_aloadN X0 hx 22 rfl (hb hby own_d5_21) rfl rfl ?_
  refine own_iinc X0 hx 25 rfl (hb hby own_d5_22) rfl #[.val (.ref a), .val (.int (3 : Int32)), .val (.int (1 : Int32)), .val (.double q2), .second, .val (.double FP.dconst0), .second, .unset, .unset, .unset, .unset] rfl ?_
  refine own_iloadN X0 hx 26 rfl (hb hby own_d5_25) rfl ?_
  refine own_ldD X0 hx hZ e0 A1 ⟨by decide, by decide⟩ q1 rfl 27 rfl (hb hby own_d5_26) ?_
  refine own_dstore X0 hx 29 rfl (hb hby own_d5_27) #[.val (.ref a), .val (.int (3 : Int32)), .val (.int (1 : Int32)), .val (.double q2), .second, .val (.double FP.dconst0), .second, .val (.double q1), .second, .unset, .unset] rfl ?_
  refine own_dloadN X0 hx 30 rfl (hb hby own_d5_29) rfl ?_
  refine own_dload X0 hx 32 rfl (hb hby own_d5_30) rfl ?_
  refine own_dadd X0 hx 33 rfl (hb hby own_d5_32) (own_nf k3.1.1) _ rfl ?_
  refine own_dstore X0 hx 35 rfl (hb hby own_d5_33) #[.val (.ref a), .val (.int (3 : Int32)), .val (.int (1 : Int32)), .val (.double q2), .second, .val (.double FP.dconst0), .second, .val (.double q1), .second, .val (.double (FP.dadd q2 q1)), .second] rfl ?_
  refine own_dload X0 hx 37 rfl (hb hby own_d5_35) rfl ?_
  refine own_dload X0 hx 39 rfl (hb hby own_d5_37) rfl ?_
  refine own_dloadN X0 hx 40 rfl (hb hby own_d5_39) rfl ?_
  refine own_dsub X0 hx 41 rfl (hb hby own_d5_40) (own_nf k3.2.1) _ rfl ?_
  refine own_dsub X0 hx 42 rfl (hb hby own_d5_41) (own_nf k3.2.2.1) _ rfl ?_
  refine own_dstore X0 hx 44 rfl (hb hby own_d5_42) #[.val (.ref a), .val (.int (3 : Int32)), .val (.int (1 : Int32)), .val (.double q2), .second, .val (.double (FP.dsub q1 (FP.dsub (FP.dadd q2 q1) q2))), .second, .val (.double q1), .second, .val (.double (FP.dadd q2 q1)), .second] rfl ?_
  refine own_dload X0 hx 46 rfl (hb hby own_d5_44) rfl ?_
  refine own_dstoreN X0 hx 47 rfl (hb hby own_d5_46) #[.val (.ref a), .val (.int (3 : Int32)), .val (.int (1 : Int32)), .val (.double (FP.dadd q2 q1)), .second, .val (.double (FP.dsub q1 (FP.dsub (FP.dadd q2 q1) q2))), .second, .val (.double q1), .second, .val (.double (FP.dadd q2 q1)), .second] rfl ?_
  refine own_dload X0 hx 49 rfl (hb hby own_d5_47) rfl ?_
  refine own_dconst0 X0 hx 50 rfl (hb hby own_d5_49) ?_
  refine own_dcmp X0 hx 51 rfl (hb hby own_d5_50) _ rfl ?_
  refine own_ifNo X0 hx 54 rfl (hb hby own_d5_51) ((if0 _ _).trans (feq lo0).1) ?_
  refine own_goto X0 hx 60 (hb hby own_d5_54) (by decide) rfl ?_
  refine own_iloadN X0 hx 61 rfl (hb hby own_d5_60) rfl ?_
  refine own_ifNo X0 hx 64 rfl (hb hby own_d5_61) (by decide) ?_
  have J1 : (own_same (own_z q1) (own_z q0)) → own_Go p e below (fun o u L => FrameEnd s o u L ({ frames := 0, cells := 0, slots := 0, locals := 0 } : Room).cells ({ frames := 0, cells := 0, slots := 0, locals := 0 } : Room).slots) (Q_rm_round3 Z a k q0 q1 q2 q3 tt h0 n0) (s₁.setTop (mkF m 99 #[.val (.ref a), .val (.int (3 : Int32)), .val (.int (1 : Int32)), .val (.double (FP.dadd q2 q1)), .second, .val (.double (FP.dsub q1 (FP.dsub (FP.dadd q2 q1) q2))), .second, .val (.double q1), .second, .val (.double (FP.dadd q2 q1)), .second] [(.int (1 : Int32))])) := by
    intro hsm
    have y3 := own_yes3 hE hsm k3.1.1 k3.1.2 k3.2.2.1 k3.2.2.2
    show own_Go _ _ _ _ _ (State.setTop _ (mkF _ 99 _ [(.int (1 : Int32))]))
    refine own_istore X0 hx 101 rfl (hb hby own_d5_99) #[.val (.ref a), .val (.int (3 : Int32)), .val (.int (1 : Int32)), .val (.double (FP.dadd q2 q1)), .second, .val (.double (FP.dsub q1 (FP.dsub (FP.dadd q2 q1) q2))), .second, .val (.int (1 : Int32)), .unset, .val (.double (FP.dadd q2 q1)), .second] rfl ?_
    refine own_iload X0 hx 103 rfl (hb hby own_d5_101) rfl ?_
    refine own_ifNo X0 hx 106 rfl (hb hby own_d5_103) (by decide) ?_
    refine own_dloadN X0 hx 107 rfl (hb hby own_d5_106) rfl ?_
    refine own_ldcD X0 hx hZ hown (own_hw hw 43 rfl) 110 rfl (hb hby own_d5_107) ?_
    refine own_dload X0 hx 112 rfl (hb hby own_d5_110) rfl ?_
    refine own_dmul X0 hx 113 rfl (hb hby own_d5_112) (own_nf y3.1) _ rfl ?_
    refine own_dadd X0 hx 114 rfl (hb hby own_d5_113) (own_nf y3.2.1) _ rfl ?_
    refine own_dstore X0 hx 116 rfl (hb hby own_d5_114) #[.val (.ref a), .val (.int (3 : Int32)), .val (.int (1 : Int32)), .val (.double (FP.dadd q2 q1)), .second, .val (.double (FP.dsub q1 (FP.dsub (FP.dadd q2 q1) q2))), .second, .val (.int (1 : Int32)), .val (.double (FP.dadd (FP.dadd q2 q1) (FP.dmul (4611686018427387904 : UInt64) (FP.dsub q1 (FP.dsub (FP.dadd q2 q1) q2))))), .second, .unset] rfl ?_
    refine own_dload X0 hx 118 rfl (hb hby own_d5_116) rfl ?_
    refine own_dloadN X0 hx 119 rfl (hb hby own_d5_118) rfl ?_
    refine own_dsub X0 hx 120 rfl (hb hby own_d5_119) (own_nf y3.2.2.1) _ rfl ?_
    refine own_ldcD X0 hx hZ hown (own_hw hw 43 rfl) 123 rfl (hb hby own_d5_120) ?_
    refine own_dload X0 hx 125 rfl (hb hby own_d5_123) rfl ?_
    refine own_dmul X0 hx 126 rfl (hb hby own_d5_125) (own_nf y3.1) _ rfl ?_
    refine own_dcmp X0 hx 127 rfl (hb hby own_d5_126) _ rfl ?_
    by_cases hc402 : cmpValue (FP.dcmp (FP.dsub (FP.dadd (FP.dadd q2 q1) (FP.dmul (4611686018427387904 : UInt64) (FP.dsub q1 (FP.dsub (FP.dadd q2 q1) q2)))) (FP.dadd q2 q1)) (FP.dmul (4611686018427387904 : UInt64) (FP.dsub q1 (FP.dsub (FP.dadd q2 q1) q2)))) .l = 0
    ·
      refine own_ifNo X0 hx 130 rfl (hb hby own_d5_127) ((if0 _ _).trans (teq hc402).2) ?_
      refine own_dload X0 hx 132 rfl (hb hby own_d5_130) rfl ?_
      refine own_dstoreN X0 hx 133 rfl (hb hby own_d5_132) #[.val (.ref a), .val (.int (3 : Int32)), .val (.int (1 : Int32)), .val (.double (FP.dadd (FP.dadd q2 q1) (FP.dmul (4611686018427387904 : UInt64) (FP.dsub q1 (FP.dsub (FP.dadd q2 q1) q2))))), .second, .val (.double (FP.dsub q1 (FP.dsub (FP.dadd q2 q1) q2))), .second, .val (.int (1 : Int32)), .val (.double (FP.dadd (FP.dadd q2 q1) (FP.dmul (4611686018427387904 : UInt64) (FP.dsub q1 (FP.dsub (FP.dadd q2 q1) q2))))), .second, .unset] rfl ?_
      refine own_dloadN X0 hx 134 rfl (hb hby own_d5_133) rfl ?_
      refine own_ret X0 (some (.double (FP.dadd (FP.dadd q2 q1) (FP.dmul (4611686018427387904 : UInt64) (FP.dsub q1 (FP.dsub (FP.dadd q2 q1) q2)))))) (fun h => by rw [Bd.returns] at h; cases h) Bd.notSynchronized (by decide) (by decide) ?_ (fun fs hr => own_retD X0 hx Bd.returns (hb hby own_d5_134) hr)
      show Q_rm_round3 Z a k q0 q1 q2 q3 tt h0 n0 _ s₁.heap _
      rw [e0]
      exact ⟨_, rfl, N0, rfl, y3.2.1, (by rw [← hT]; exact y3.2.2.2.1 hc402)⟩
    ·
      refine own_ifYes X0 hx 133 (hb hby own_d5_127) ((if0 _ _).trans (feq hc402).2) (by decide) rfl ?_
      refine own_dloadN X0 hx 134 rfl (hb hby own_d5_133) rfl ?_
      refine own_ret X0 (some (.double (FP.dadd q2 q1))) (fun h => by rw [Bd.returns] at h; cases h) Bd.notSynchronized (by decide) (by decide) ?_ (fun fs hr => own_retD X0 hx Bd.returns (hb hby own_d5_134) hr)
      show Q_rm_round3 Z a k q0 q1 q2 q3 tt h0 n0 _ s₁.heap _
      rw [e0]
      exact ⟨_, rfl, N0, rfl, k3.1.1, (by rw [← hT]; exact y3.2.2.2.2 hc402)⟩
  have J0 : (¬ own_same (own_z q1) (own_z q0)) → own_Go p e below (fun o u L => FrameEnd s o u L ({ frames := 0, cells := 0, slots := 0, locals := 0 } : Room).cells ({ frames := 0, cells := 0, slots := 0, locals := 0 } : Room).slots) (Q_rm_round3 Z a k q0 q1 q2 q3 tt h0 n0) (s₁.setTop (mkF m 99 #[.val (.ref a), .val (.int (3 : Int32)), .val (.int (1 : Int32)), .val (.double (FP.dadd q2 q1)), .second, .val (.double (FP.dsub q1 (FP.dsub (FP.dadd q2 q1) q2))), .second, .val (.double q1), .second, .val (.double (FP.dadd q2 q1)), .second] [(.int (0 : Int32))])) := by
    intro hsm
    show own_Go _ _ _ _ _ (State.setTop _ (mkF _ 99 _ [(.int (0 : Int32))]))
    refine own_istore X0 hx 101 rfl (hb hby own_d5_99) #[.val (.ref a), .val (.int (3 : Int32)), .val (.int (1 : Int32)), .val (.double (FP.dadd q2 q1)), .second, .val (.double (FP.dsub q1 (FP.dsub (FP.dadd q2 q1) q2))), .second, .val (.int (0 : Int32)), .unset, .val (.double (FP.dadd q2 q1)), .second] rfl ?_
    refine own_iload X0 hx 103 rfl (hb hby own_d5_101) rfl ?_
    refine own_ifYes X0 hx 133 (hb hby own_d5_103) (by decide) (by decide) rfl ?_
    refine own_dloadN X0 hx 134 rfl (hb hby own_d5_133) rfl ?_
    refine own_ret X0 (some (.double (FP.dadd q2 q1))) (fun h => by rw [Bd.returns] at h; cases h) Bd.notSynchronized (by decide) (by decide) ?_ (fun fs hr => own_retD X0 hx Bd.returns (hb hby own_d5_134) hr)
    show Q_rm_round3 Z a k q0 q1 q2 q3 tt h0 n0 _ s₁.heap _
    rw [e0]
    exact ⟨_, rfl, N0, rfl, k3.1.1, (by rw [← hT]; exact own_no3 hE hsm)⟩
  refine own_dload X0 hx 66 rfl (hb hby own_d5_64) rfl ?_
  refine own_dconst0 X0 hx 67 rfl (hb hby own_d5_66) ?_
  refine own_dcmp X0 hx 68 rfl (hb hby own_d5_67) _ rfl ?_
  by_cases hc403 : cmpValue (FP.dcmp (FP.dsub q1 (FP.dsub (FP.dadd q2 q1) q2)) FP.dconst0) .g < 0
  ·
    have sg404 : own_z q1 < 0 := k3.2.2.2 ▸ (own_sgLt k3.2.2.1 .g).mp hc403
    refine own_ifNo X0 hx 71 rfl (hb hby own_d5_68) ((if0 _ _).trans (tlt hc403).2.1) ?_
    refine own_aloadN X0 hx 72 rfl (hb hby own_d5_71) rfl rfl ?_
    refine own_iloadN X0 hx 73 rfl (hb hby own_d5_72) rfl ?_
    refine own_iconst X0 hx 74 rfl (hb hby own_d5_73) (1 : Int32) rfl ?_
    refine own_isub X0 hx 75 rfl (hb hby own_d5_74) (0 : Int32) rfl ?_
    refine own_ldD X0 hx hZ e0 A1 ⟨by decide, by decide⟩ q0 rfl 76 rfl (hb hby own_d5_75) ?_
    refine own_dconst0 X0 hx 77 rfl (hb hby own_d5_76) ?_
    refine own_dcmp X0 hx 78 rfl (hb hby own_d5_77) _ rfl ?_
    by_cases hc405 : cmpValue (FP.dcmp q0 FP.dconst0) .g < 0
    ·
      refine own_ifNo X0 hx 81 rfl (hb hby own_d5_78) ((if0 _ _).trans (tlt hc405).2.1) ?_
      refine own_goto X0 hx 94 (hb hby own_d5_81) (by decide) rfl ?_
      refine own_iconst X0 hx 95 rfl (hb hby own_d5_94) (1 : Int32) rfl ?_
      refine own_goto X0 hx 99 (hb hby own_d5_95) (by decide) rfl ?_
      exact J1 (Or.inl ⟨sg404, (own_sgLt hE.1 .g).mp hc405⟩)
    ·
      refine own_ifYes X0 hx 98 (hb hby own_d5_78) ((if0 _ _).trans (flt hc405).2.1) (by decide) rfl ?_
      refine own_iconst X0 hx 99 rfl (hb hby own_d5_98) (0 : Int32) rfl ?_
      exact J0 (fun q => q.elim (fun q => hc405 ((own_sgLt hE.1 .g).mpr q.2)) (fun q => absurd q.1 (Int.lt_asymm sg404)))
  ·
    have sg406 : ¬ own_z q1 < 0 := fun q => hc403 ((own_sgLt k3.2.2.1 .g).mpr (k3.2.2.2.symm ▸ q))
    refine own_ifYes X0 hx 84 (hb hby own_d5_68) ((if0 _ _).trans (flt hc403).2.1) (by decide) rfl ?_
    refine own_aloadN X0 hx 85 rfl (hb hby own_d5_84) rfl rfl ?_
    refine own_iloadN X0 hx 86 rfl (hb hby own_d5_85) rfl ?_
    refine own_iconst X0 hx 87 rfl (hb hby own_d5_86) (1 : Int32) rfl ?_
    refine own_isub X0 hx 88 rfl (hb hby own_d5_87) (0 : Int32) rfl ?_
    refine own_ldD X0 hx hZ e0 A1 ⟨by decide, by decide⟩ q0 rfl 89 rfl (hb hby own_d5_88) ?_
    refine own_dconst0 X0 hx 90 rfl (hb hby own_d5_89) ?_
    refine own_dcmp X0 hx 91 rfl (hb hby own_d5_90) _ rfl ?_
    by_cases hc407 : 0 < cmpValue (FP.dcmp q0 FP.dconst0) .l
    ·
      refine own_ifNo X0 hx 94 rfl (hb hby own_d5_91) ((if0 _ _).trans (tlt hc407).2.2.2) ?_
      refine own_iconst X0 hx 95 rfl (hb hby own_d5_94) (1 : Int32) rfl ?_
      refine own_goto X0 hx 99 (hb hby own_d5_95) (by decide) rfl ?_
      exact J1 (Or.inr ⟨own_posne sg406 hE.2.2.2.2.1, (own_sgGt hE.1 .l).mp hc407⟩)
    ·
      refine own_ifYes X0 hx 98 (hb hby own_d5_91) ((if0 _ _).trans (flt hc407).2.2.2) (by decide) rfl ?_
      refine own_iconst X0 hx 99 rfl (hb hby own_d5_98) (0 : Int32) rfl ?_
      exact J0 (fun q => q.elim (fun q => sg406 q.1) (fun q => hc407 ((own_sgGt hE.1 .l).mpr q.2)))
theorem own_ef_rm_rounded (m : MethodId) (o : Addr) : entryFrame m #[(.ref o)] 1 = mkF m 0 #[.val (.ref o)] [] := by first | (simp [entryFrame, mkF, argsToLocals, Value.category]; done) | rfl
def Q_rm_rounded (Z : State) (o : Addr) (a : Addr) (k : ClassId) (cn : Int32) (q0 : UInt64) (q1 : UInt64) (q2 : UInt64) (q3 : UInt64) (tt : Int) (h0 : Heap) (n0 : Nat) (v : Option Value) (h : Heap) (L : List Loc) : Prop := ∃ dd : UInt64, v = some (.double dd) ∧ Fr n0 L ∧ h = h0 ∧ own_F dd ∧ own_z dd = own_rn tt
theorem own_d4_0 : decode prog_126_method_4_code 0 = .ok (.aload_n 0, 1) := by decide +kernel
theorem own_d4_1 : decode prog_126_method_4_code 1 = .ok (.getfield 7, 3) := by decide +kernel
theorem own_d4_4 : decode prog_126_method_4_code 4 = .ok (.aload_n 0, 1) := by decide +kernel
theorem own_d4_5 : decode prog_126_method_4_code 5 = .ok (.getfield 16, 3) := by decide +kernel
theorem own_d4_8 : decode prog_126_method_4_code 8 = .ok (.invokestatic 30, 3) := by decide +kernel
theorem own_pd2 : parseMethodDescriptor "([DI)D" = some ⟨[(.array .double), .int], some .double⟩ := by decide +kernel
theorem own_d4_11 : decode prog_126_method_4_code 11 = .ok (.dreturn, 1) := by decide +kernel
set_option maxRecDepth 65536 in
set_option maxHeartbeats 40000000 in
theorem rm_rounded (l : Launch) (Z : State) (a0 : Array Value) (hw : ∀ d ∈ tables_1, d.before a0 Z = true) (ws : List Jvm.Cond) (o : Addr) (a : Addr) (k : ClassId) (cn : Int32) (q0 : UInt64) (q1 : UInt64) (q2 : UInt64) (q3 : UInt64) (tt : Int) (h0 : Heap) (n0 : Nat) (Z0 : n0 ≤ h0.size) (F1 : Fld Z h0 o "com/example/outpost/outpost/service/split/ExactSum" "parts" "[D" (.ref a)) (F2 : Fld Z h0 o "com/example/outpost/outpost/service/split/ExactSum" "count" "I" (.int cn)) (A1 : Arv Z h0 a k .double (4 : Int32) [(.double q0), (.double q1), (.double q2), (.double q3)] (.double (0 : UInt64))) (hJ : own_J3 tt cn q0 q1 q2) :
    MetFree l (⟨"com/example/outpost/outpost/service/split/ExactSum", "rounded", "()D"⟩ : MethodName) (head1 (Jvm.Cond.code (⟨"com/example/outpost/outpost/service/split/ExactSum", "rounded", "()D"⟩ : MethodName) prog_126_method_4_code 1 (some .double) :: ws) ({ frames := 1, cells := 0, slots := 0, locals := 22 } : Room)) (fun aa U => aa = #[(.ref o)] ∧ Z.Warmed39 U.vm ∧ U.heap = h0) (fun _ _ _ _ _ => True) (fun _ U ou U' => ∃ v L, ou = .returned v ∧ Q_rm_rounded Z o a k cn q0 q1 q2 q3 tt h0 n0 v U'.heap L ∧ FrameEnd U ou U' L ({ frames := 1, cells := 0, slots := 0, locals := 22 } : Room).cells ({ frames := 1, cells := 0, slots := 0, locals := 22 } : Room).slots) := by
  refine MetFree.of_bodySF (plainFor_of_name own_pn0) hisR ?_
  intro p e s m args below meth c s₁ Bd hml0 hP hK
  obtain ⟨rfl, hZ, hh⟩ := hP
  have hx := Bd.exec
  have hby := Bd.bytes
  have hml : c.maxLocals = 1 := hml0
  have hown : s.vm.findClass "com/example/outpost/outpost/service/split/ExactSum" = some m.cls := findClass_of_methodNamed Bd.named
  have hnm := (name_of_methodNamed Bd.named Bd.method).1
  have X0 : Stand p l e ({ frames := 1, cells := 0, slots := 0, locals := 22 } : Room) s m #[(.ref o)] below meth c s₁ [] 0 0 := Stand.of_body Bd
  have e0 : s₁.heap = h0 := by rw [← hh, Bd.state]; rfl
  have N0 := Fr.nil n0
  show own_Go p e below (fun o u L => FrameEnd s o u L ({ frames := 1, cells := 0, slots := 0, locals := 22 } : Room).cells ({ frames := 1, cells := 0, slots := 0, locals := 22 } : Room).slots) (Q_rm_rounded Z o a k cn q0 q1 q2 q3 tt h0 n0) (s₁.setTop (entryFrame m #[(.ref o)] 1))
  rw [own_ef_rm_rounded m o]
  rcases hJ with (⟨hn, hT⟩ | ⟨hn, f0, hT⟩) | ⟨hn, f0, f1, hT, b0, b1⟩ | ⟨hn, hE, hT⟩
  ·
    have F2408 : Fld Z h0 o "com/example/outpost/outpost/service/split/ExactSum" "count" "I" (.int (0 : Int32)) := by rw [hn] at F2; exact F2
    show own_Go _ _ _ _ _ (State.setTop _ (mkF _ 0 #[.val (.ref o)] []))
    refine own_aloadN X0 hx 1 rfl (hb hby own_d4_0) rfl rfl ?_
    refine own_getF X0 hx hZ (host := "") hown (Or.inl (own_hw hw 11 rfl)) Via.refl e0 F1 4 rfl (hb hby own_d4_1) fun T409 X409 e409 => ?_
    refine own_aloadN X409 hx 5 rfl (hb hby own_d4_4) rfl rfl ?_
    refine own_getF X409 hx hZ (host := "") hown (Or.inl (own_hw hw 24 rfl)) Via.refl e409 F2408 8 rfl (hb hby own_d4_5) fun T410 X410 e410 => ?_
    refine own_callS X410 hx hZ (y := (⟨"com/example/outpost/outpost/service/split/ExactSum", "rounded", "([DI)D"⟩ : MethodName)) hown (own_hw hw 26 rfl) (own_hw hw 27 rfl) (by decide) (rm_round0 l Z a0 hw [] a k q0 q1 q2 q3 tt h0 n0 Z0 A1 hT) (own_hw hw 28 rfl) (own_hw hw 4 rfl) (by decide) e410 (by rw [hml]; rfl) [(.ref a), (.int (0 : Int32))] 0 (by decide) (Nat.le_of_eq rfl) (by decide) (by decide) (lenOf own_pd2 rfl) rfl rfl 11 rfl (hb hby own_d4_8) fun v411 T411 Lc411 X411 hQ411 => ?_
    obtain ⟨d411, rfl, Nq411, e411, fd411, zd411⟩ := hQ411
    have N412 := Fr.app N0 Nq411
    show own_Go _ _ _ _ _ (State.setTop _ (mkF _ 11 _ [(.double d411)]))
    refine own_ret X411 (some (.double d411)) (fun h => by rw [Bd.returns] at h; cases h) Bd.notSynchronized (by decide) (by decide) ?_ (fun fs hr => own_retD X411 hx Bd.returns (hb hby own_d4_11) hr)
    show Q_rm_rounded Z o a k cn q0 q1 q2 q3 tt h0 n0 _ T411.heap _
    rw [e411]
    exact ⟨_, rfl, N412, rfl, fd411, zd411⟩
  ·
    have F2413 : Fld Z h0 o "com/example/outpost/outpost/service/split/ExactSum" "count" "I" (.int (1 : Int32)) := by rw [hn] at F2; exact F2
    show own_Go _ _ _ _ _ (State.setTop _ (mkF _ 0 #[.val (.ref o)] []))
    refine own_aloadN X0 hx 1 rfl (hb hby own_d4_0) rfl rfl ?_
    refine own_getF X0 hx hZ (host := "") hown (Or.inl (own_hw hw 11 rfl)) Via.refl e0 F1 4 rfl (hb hby own_d4_1) fun T414 X414 e414 => ?_
    refine own_aloadN X414 hx 5 rfl (hb hby own_d4_4) rfl rfl ?_
    refine own_getF X414 hx hZ (host := "") hown (Or.inl (own_hw hw 24 rfl)) Via.refl e414 F2413 8 rfl (hb hby own_d4_5) fun T415 X415 e415 => ?_
    refine own_callS X415 hx hZ (y := (⟨"com/example/outpost/outpost/service/split/ExactSum", "rounded", "([DI)D"⟩ : MethodName)) hown (own_hw hw 26 rfl) (own_hw hw 27 rfl) (by decide) (rm_round1 l Z a0 hw [] a k q0 q1 q2 q3 tt h0 n0 Z0 A1 f0 hT) (own_hw hw 28 rfl) (own_hw hw 4 rfl) (by decide) e415 (by rw [hml]; rfl) [(.ref a), (.int (1 : Int32))] 0 (by decide) (Nat.le_of_eq rfl) (by decide) (by decide) (lenOf own_pd2 rfl) rfl rfl 11 rfl (hb hby own_d4_8) fun v416 T416 Lc416 X416 hQ416 => ?_
    obtain ⟨d416, rfl, Nq416, e416, fd416, zd416⟩ := hQ416
    have N417 := Fr.app N0 Nq416
    show own_Go _ _ _ _ _ (State.setTop _ (mkF _ 11 _ [(.double d416)]))
    refine own_ret X416 (some (.double d416)) (fun h => by rw [Bd.returns] at h; cases h) Bd.notSynchronized (by decide) (by decide) ?_ (fun fs hr => own_retD X416 hx Bd.returns (hb hby own_d4_11) hr)
    show Q_rm_rounded Z o a k cn q0 q1 q2 q3 tt h0 n0 _ T416.heap _
    rw [e416]
    exact ⟨_, rfl, N417, rfl, fd416, zd416⟩
  ·
    have F2418 : Fld Z h0 o "com/example/outpost/outpost/service/split/ExactSum" "count" "I" (.int (2 : Int32)) := by rw [hn] at F2; exact F2
    show own_Go _ _ _ _ _ (State.setTop _ (mkF _ 0 #[.val (.ref o)] []))
    refine own_aloadN X0 hx 1 rfl (hb hby own_d4_0) rfl rfl ?_
    refine own_getF X0 hx hZ (host := "") hown (Or.inl (own_hw hw 11 rfl)) Via.refl e0 F1 4 rfl (hb hby own_d4_1) fun T419 X419 e419 => ?_
    refine own_aloadN X419 hx 5 rfl (hb hby own_d4_4) rfl rfl ?_
    refine own_getF X419 hx hZ (host := "") hown (Or.inl (own_hw hw 24 rfl)) Via.refl e419 F2418 8 rfl (hb hby own_d4_5) fun T420 X420 e420 => ?_
    refine own_callS X420 hx hZ (y := (⟨"com/example/outpost/outpost/service/split/ExactSum", "rounded", "([DI)D"⟩ : MethodName)) hown (own_hw hw 26 rfl) (own_hw hw 27 rfl) (by decide) (rm_round2 l Z a0 hw [] a k q0 q1 q2 q3 tt h0 n0 Z0 A1 f0 f1 hT b0 b1) (own_hw hw 28 rfl) (own_hw hw 4 rfl) (by decide) e420 (by rw [hml]; rfl) [(.ref a), (.int (2 : Int32))] 0 (by decide) (Nat.le_of_eq rfl) (by decide) (by decide) (lenOf own_pd2 rfl) rfl rfl 11 rfl (hb hby own_d4_8) fun v421 T421 Lc421 X421 hQ421 => ?_
    obtain ⟨d421, rfl, Nq421, e421, fd421, zd421⟩ := hQ421
    have N422 := Fr.app N0 Nq421
    show own_Go _ _ _ _ _ (State.setTop _ (mkF _ 11 _ [(.double d421)]))
    refine own_ret X421 (some (.double d421)) (fun h => by rw [Bd.returns] at h; cases h) Bd.notSynchronized (by decide) (by decide) ?_ (fun fs hr => own_retD X421 hx Bd.returns (hb hby own_d4_11) hr)
    show Q_rm_rounded Z o a k cn q0 q1 q2 q3 tt h0 n0 _ T421.heap _
    rw [e421]
    exact ⟨_, rfl, N422, rfl, fd421, zd421⟩
  ·
    have F2423 : Fld Z h0 o "com/example/outpost/outpost/service/split/ExactSum" "count" "I" (.int (3 : Int32)) := by rw [hn] at F2; exact F2
    show own_Go _ _ _ _ _ (State.setTop _ (mkF _ 0 #[.val (.ref o)] []))
    refine own_aloadN X0 hx 1 rfl (hb hby own_d4_0) rfl rfl ?_
    refine own_getF X0 hx hZ (host := "") hown (Or.inl (own_hw hw 11 rfl)) Via.refl e0 F1 4 rfl (hb hby own_d4_1) fun T424 X424 e424 => ?_
    refine own_aloadN X424 hx 5 rfl (hb hby own_d4_4) rfl rfl ?_
    refine own_getF X424 hx hZ (host := "") hown (Or.inl (own_hw hw 24 rfl)) Via.refl e424 F2423 8 rfl (hb hby own_d4_5) fun T425 X425 e425 => ?_
    refine own_callS X425 hx hZ (y := (⟨"com/example/outpost/outpost/service/split/ExactSum", "rounded", "([DI)D"⟩ : MethodName)) hown (own_hw hw 26 rfl) (own_hw hw 27 rfl) (by decide) (rm_round3 l Z a0 hw [] a k q0 q1 q2 q3 tt h0 n0 Z0 A1 hE hT) (own_hw hw 28 rfl) (own_hw hw 4 rfl) (by decide) e425 (by rw [hml]; rfl) [(.ref a), (.int (3 : Int32))] 0 (by decide) (Nat.le_of_eq rfl) (by decide) (by decide) (lenOf own_pd2 rfl) rfl rfl 11 rfl (hb hby own_d4_8) fun v426 T426 Lc426 X426 hQ426 => ?_
    obtain ⟨d426, rfl, Nq426, e426, fd426, zd426⟩ := hQ426
    have N427 := Fr.app N0 Nq426
    show own_Go _ _ _ _ _ (State.setTop _ (mkF _ 11 _ [(.double d426)]))
    refine own_ret X426 (some (.double d426)) (fun h => by rw [Bd.returns] at h; cases h) Bd.notSynchronized (by decide) (by decide) ?_ (fun fs hr => own_retD X426 hx Bd.returns (hb hby own_d4_11) hr)
    show Q_rm_rounded Z o a k cn q0 q1 q2 q3 tt h0 n0 _ T426.heap _
    rw [e426]
    exact ⟨_, rfl, N427, rfl, fd426, zd426⟩
def own_sa (s : Int32) : Int32 := (s &&& (31 : Int32)) % (31 : Int32)
def own_sb (s : Int32) : Int32 := (((s.toUInt32 >>> ((5 : Int32) &&& 31).toUInt32).toInt32) &&& (31 : Int32)) % (31 : Int32)
def own_tt (s : Int32) : Int32 := (32 : Int32) + ((((s.toUInt32 >>> ((10 : Int32) &&& 31).toUInt32).toInt32) &&& (31 : Int32)) % (31 : Int32))
def own_pm (s : Int32) : Int32 := ((s.toUInt32 >>> ((3 : Int32) &&& 31).toUInt32).toInt32) % (6 : Int32)
theorem own_m31 (x : Int32) : 0 ≤ ((x &&& (31 : Int32)) % (31 : Int32)).toInt ∧ ((x &&& (31 : Int32)) % (31 : Int32)).toInt ≤ 30 := by
  have h0 := c_mask x 31 5 (by decide) (by decide)
  have h1 : ((31 : Int32)).toInt = 31 := by decide
  have h3 := (c_iremV (x &&& (31 : Int32)) (31 : Int32)).1 (by omega) (by omega)
  omega
theorem own_tt_rng (s : Int32) : 32 ≤ (own_tt s).toInt ∧ (own_tt s).toInt ≤ 62 := by
  unfold own_tt
  have h0 := own_m31 ((s.toUInt32 >>> ((10 : Int32) &&& 31).toUInt32).toInt32)
  generalize (((s.toUInt32 >>> ((10 : Int32) &&& 31).toUInt32).toInt32) &&& (31 : Int32)) % (31 : Int32) = x at *
  have h1 : ((32 : Int32)).toInt = 32 := by decide
  have h2 := c_iadd 32 x
  have h3 := rng32 ((32 : Int32) + x)
  omega
def own_A (i s : Int32) : Int64 := i.toInt64 <<< (s &&& 0x3f).toInt64
def own_W (t : Int32) : Int64 := (1 : Int64) <<< (t &&& 0x3f).toInt64
theorem own_sh {s : Int32} (h0 : 0 ≤ s.toInt) (h1 : s.toInt ≤ 62) : s.toBitVec.toNat % 64 = s.toInt.toNat := by
  have h := BitVec.toInt_eq_toNat_cond s.toBitVec
  have e : s.toInt = s.toBitVec.toInt := rfl
  have hl := s.toBitVec.isLt
  split at h <;> omega
theorem own_A_int {i s : Int32} (h0 : 0 ≤ s.toInt) (h1 : s.toInt ≤ 30) : (own_A i s).toInt = i.toInt * ((2 ^ s.toInt.toNat : Nat) : Int) ∧ (own_A i s).toInt.natAbs ≤ 2 ^ 61 := by
  have k := c_lshl i.toInt64 s _ (own_sh h0 (by omega))
  rw [c_i2l] at k
  have b : (i.toInt * ((2 ^ s.toInt.toNat : Nat) : Int)).natAbs ≤ 2 ^ 61 := by
    rw [Int.natAbs_mul, Int.natAbs_natCast]
    have b1 : i.toInt.natAbs ≤ 2 ^ 31 := by have := rng32 i; omega
    have b2 : 2 ^ s.toInt.toNat ≤ 2 ^ 30 := Nat.pow_le_pow_right (by decide) (by omega)
    exact Nat.le_trans (Nat.mul_le_mul b1 b2) (by decide)
  have r := rng64 (i.toInt64 <<< (s &&& 0x3f).toInt64)
  have e : (own_A i s).toInt = i.toInt * ((2 ^ s.toInt.toNat : Nat) : Int) := by
    unfold own_A
    generalize i.toInt * ((2 ^ s.toInt.toNat : Nat) : Int) = y at *
    generalize (i.toInt64 <<< (s &&& 0x3f).toInt64).toInt = x at *
    omega
  exact ⟨e, by rw [e]; exact b⟩
theorem own_A_z {i s : Int32} (h0 : 0 ≤ s.toInt) (h1 : s.toInt ≤ 30) : own_z (FP.l2d (own_A i s)) = (own_A i s).toInt * (own_U : Int) := by
  refine (own_l2d_rn (own_A i s)).trans (own_rn_exact ?_)
  rw [(own_A_int h0 h1).1, own_U_eq, Int.mul_assoc, ← Int.natCast_mul, ← Nat.pow_add]
  exact ⟨i.toInt, _, rfl, by have := rng32 i; omega, by omega⟩
theorem own_W_int {t : Int32} (h0 : 32 ≤ t.toInt) (h1 : t.toInt ≤ 62) : (own_W t).toInt = ((2 ^ t.toInt.toNat : Nat) : Int) := by
  have k := c_lshl 1 t _ (own_sh (by omega) h1)
  have e1 : ((1 : Int64)).toInt = 1 := by decide
  rw [e1, Int.one_mul] at k
  have b2 : 2 ^ t.toInt.toNat ≤ 2 ^ 62 := Nat.pow_le_pow_right (by decide) (by omega)
  have r := rng64 ((1 : Int64) <<< (t &&& 0x3f).toInt64)
  unfold own_W
  generalize 2 ^ t.toInt.toNat = y at *
  generalize ((1 : Int64) <<< (t &&& 0x3f).toInt64).toInt = x at *
  omega
theorem own_W_z {t : Int32} (h0 : 32 ≤ t.toInt) (h1 : t.toInt ≤ 62) : own_z (FP.l2d (own_W t)) = ((2 ^ t.toInt.toNat : Nat) : Int) * (own_U : Int) := by
  refine (own_l2d_rn (own_W t)).trans ?_
  rw [own_W_int h0 h1]
  refine own_rn_exact ?_
  rw [own_U_eq, ← Int.natCast_mul, ← Nat.pow_add]
  exact ⟨1, _, (Int.one_mul _).symm, by decide, by omega⟩
def own_x0 (i s : Int32) : UInt64 := FP.l2d (own_A i (own_sa s))
def own_x1 (i s : Int32) : UInt64 := FP.l2d (own_A i (own_sb s))
def own_x2 (i s : Int32) : UInt64 := FP.ddiv (FP.i2d i) (FP.l2d (own_W (own_tt s)))
theorem own_x0_f (i s : Int32) : own_F (own_x0 i s) := FP.Core.l2d_fin _
theorem own_x1_f (i s : Int32) : own_F (own_x1 i s) := FP.Core.l2d_fin _
theorem own_x0_z (i s : Int32) : own_z (own_x0 i s) = (own_A i (own_sa s)).toInt * (own_U : Int) := own_A_z (own_m31 _).1 (own_m31 _).2
theorem own_x1_z (i s : Int32) : own_z (own_x1 i s) = (own_A i (own_sb s)).toInt * (own_U : Int) := own_A_z (own_m31 _).1 (own_m31 _).2
theorem own_A0_b (i s : Int32) : (own_A i (own_sa s)).toInt.natAbs ≤ 2 ^ 61 := (own_A_int (own_m31 _).1 (own_m31 _).2).2
theorem own_A1_b (i s : Int32) : (own_A i (own_sb s)).toInt.natAbs ≤ 2 ^ 61 := (own_A_int (own_m31 _).1 (own_m31 _).2).2
theorem own_x0_b (i s : Int32) : (own_z (own_x0 i s)).natAbs ≤ own_C := by rw [own_x0_z]; exact own_int_bd (Nat.le_trans (own_A0_b i s) (by decide))
theorem own_x1_b (i s : Int32) : (own_z (own_x1 i s)).natAbs ≤ own_C := by rw [own_x1_z]; exact own_int_bd (Nat.le_trans (own_A1_b i s) (by decide))
theorem own_spl {i A B U : Int} (h : U = A * B) : i * U * U = i * A * (B * U) := by subst h; ac_rfl
theorem own_hlf {z a U : Int} (h : a * ((2 ^ 1 : Nat) : Int) = 1 * U) : 2 * z * a = z * U := by
  have e : ((2 ^ 1 : Nat) : Int) = 2 := rfl
  rw [e, Int.one_mul] at h
  rw [← h]
  ac_rfl
theorem own_x2_all (i s : Int32) : own_F (own_x2 i s) ∧ 2 * (own_z (own_x2 i s)).natAbs ≤ own_U := by
  obtain ⟨h0, h1⟩ := own_tt_rng s
  unfold own_x2
  have zx : own_z (FP.i2d i) = i.toInt * (own_U : Int) := (own_is.i2d i).z
  have zy := own_W_z h0 h1
  generalize hk : (own_tt s).toInt.toNat = k at *
  have hk1 : 32 ≤ k := by omega
  have hk2 : k ≤ 62 := by omega
  have r32 := rng32 i
  have q := own_divS (z := i.toInt * ((2 ^ (1074 - k) : Nat) : Int)) (own_is.i2d i).1 (FP.Core.l2d_fin (own_W (own_tt s))) (by rw [show own_z (FP.Core.l2d (own_W (own_tt s))) = _ from zy]; exact Int.mul_pos (own_two_pos k) own_U_pos) ⟨_, _, rfl, by omega, by omega⟩ (by
    rw [show own_z (FP.Core.i2d i) = _ from zx, show own_z (FP.Core.l2d (own_W (own_tt s))) = _ from zy]
    exact own_spl (own_U_split (by omega)))
  refine ⟨q.1, ?_⟩
  rw [show own_z (FP.ddiv (FP.i2d i) (FP.l2d (own_W (own_tt s)))) = _ from q.2, Int.natAbs_mul, Int.natAbs_natCast, ← Nat.mul_assoc, own_U_eq]
  have e : (2 : Nat) ^ 1074 = 2 ^ k * 2 ^ (1074 - k) := by rw [← Nat.pow_add]; congr 1; omega
  rw [e]
  refine Nat.mul_le_mul_right _ (Nat.le_trans ?_ (Nat.pow_le_pow_right (by decide) hk1))
  omega
theorem own_UleC : own_U ≤ own_C := by rw [← own_UC]; exact Nat.le_mul_of_pos_left _ (by decide)
theorem own_x2_f (i s : Int32) : own_F (own_x2 i s) := (own_x2_all i s).1
theorem own_x2_b (i s : Int32) : (own_z (own_x2 i s)).natAbs ≤ own_C := by
  have h := (own_x2_all i s).2
  have u := own_UleC
  omega
theorem own_hA0 {f : Int32} {x : UInt64} (h : f = 0) : ((0 : Int64)).toInt * (own_U : Int) = own_t f x ∧ ((0 : Int64)).toInt.natAbs ≤ 2 ^ 61 := ⟨by rw [own_t0 h, show ((0 : Int64)).toInt = 0 by decide, Int.zero_mul], by decide⟩
theorem own_hA1 {f : Int32} {x : UInt64} {a : Int64} (h : ¬ f = 0) (hz : own_z x = a.toInt * (own_U : Int)) (hb : a.toInt.natAbs ≤ 2 ^ 61) : a.toInt * (own_U : Int) = own_t f x ∧ a.toInt.natAbs ≤ 2 ^ 61 := ⟨by rw [own_t1 h, hz], hb⟩
theorem own_hc0 {f : Int32} {x : UInt64} (h : f = 0) : own_F FP.dconst0 ∧ own_z FP.dconst0 = own_t f x ∧ 2 * (own_z FP.dconst0).natAbs ≤ own_U := ⟨own_f0, by rw [own_t0 h, own_z0], by rw [own_z0]; exact Nat.zero_le _⟩
theorem own_hc1 {f : Int32} {i s : Int32} (h : ¬ f = 0) : own_F (own_x2 i s) ∧ own_z (own_x2 i s) = own_t f (own_x2 i s) ∧ 2 * (own_z (own_x2 i s)).natAbs ≤ own_U := ⟨(own_x2_all i s).1, (own_t1 h).symm, (own_x2_all i s).2⟩
theorem own_I {a b : Int64} (ha : a.toInt.natAbs ≤ 2 ^ 61) (hb : b.toInt.natAbs ≤ 2 ^ 61) : (a + b).toInt = a.toInt + b.toInt ∧ (a + b).toInt.natAbs ≤ 2 ^ 62 := by
  have h := c_ladd a b
  have r := rng64 (a + b)
  constructor <;> omega
theorem own_back' {x : Int64} (hx : x.toInt.natAbs ≤ 2 ^ 62) : lcmpW (FP.d2l (FP.l2d x)) x = 0 ↔ own_z (FP.l2d x) = x.toInt * (own_U : Int) := by
  refine Iff.trans ?_ (own_back hx)
  have c := c_lcmp (FP.d2l (FP.l2d x)) x
  have z : ((0 : Int32)).toInt = 0 := by decide
  constructor
  · intro q
    refine Int64.toInt_inj.mp ?_
    rw [q, z] at c
    show (FP.d2l (FP.l2d x)).toInt = x.toInt
    omega
  · intro q
    exact Int32.toInt_inj.mp ((c.2.1 (congrArg Int64.toInt q)).trans z.symm)
theorem own_exact {x : Int64} {c : UInt64} (hx : x.toInt.natAbs ≤ 2 ^ 62) (h : lcmpW (FP.d2l (FP.l2d x)) x = 0) (fc : own_F c) (bc : 2 * (own_z c).natAbs ≤ own_U) : own_F (FP.dadd (FP.l2d x) c) ∧ own_z (FP.dadd (FP.l2d x) c) = own_rn (x.toInt * (own_U : Int) + own_z c) := by
  have z : own_z (FP.l2d x) = x.toInt * (own_U : Int) := (own_back' hx).mp h
  have b := own_int_bd (n := x.toInt) (by omega)
  rw [← z] at b
  have u := own_UleC
  have CB := own_CB
  have e : own_z (FP.dadd (FP.l2d x) c) = own_rn (own_z (FP.l2d x) + own_z c) := own_dadd_rn (FP.Core.l2d_fin x) fc
  exact ⟨own_dadd_fin (FP.Core.l2d_fin x) fc (by omega), by rw [e, z]⟩
theorem own_inexact {x sg : Int64} {c : UInt64} (hx : x.toInt.natAbs ≤ 2 ^ 62) (h : ¬ lcmpW (FP.d2l (FP.l2d x)) x = 0) (bc : 2 * (own_z c).natAbs ≤ own_U) (hs : (0 < own_z c ∧ sg.toInt = 1) ∨ (own_z c < 0 ∧ sg.toInt = -1) ∨ (own_z c = 0 ∧ sg.toInt = 0)) :
    own_F (FP.dmul (FP.l2d ((2 : Int64) * x + sg)) (4602678819172646912 : UInt64)) ∧ own_z (FP.dmul (FP.l2d ((2 : Int64) * x + sg)) (4602678819172646912 : UInt64)) = own_rn (x.toInt * (own_U : Int) + own_z c) := by
  have nr : ¬ own_rep (x.toInt * (own_U : Int)) := fun r => h ((own_back' hx).mpr ((own_l2d_rn x).trans (own_rn_exact r)))
  have n1 : 2 ^ 53 < x.toInt.natAbs := Nat.not_le.mp fun q => nr (own_rep_int q)
  have n2 : x.toInt.natAbs < 2 ^ 62 := by
    refine Nat.lt_of_le_of_ne hx fun q => nr ?_
    have e : x.toInt = 1 * 4611686018427387904 ∨ x.toInt = -1 * 4611686018427387904 := by omega
    have p : (4611686018427387904 : Int) * (own_U : Int) = ((2 ^ 1136 : Nat) : Int) := by
      rw [own_U_eq, show (2 : Nat) ^ 1136 = 2 ^ 62 * 2 ^ 1074 from Nat.pow_add 2 62 1074, Int.natCast_mul]; rfl
    rcases e with e | e
    · rw [e, Int.mul_assoc, p]; exact own_rep_top (by decide) (by decide)
    · rw [e, Int.mul_assoc, p]; exact own_rep_top (by decide) (by decide)
  have t2 : ((2 : Int64)).toInt = 2 := by decide
  have a1 := c_lmul 2 x
  have a2 := rng64 ((2 : Int64) * x)
  have a3 := c_ladd ((2 : Int64) * x) sg
  have a4 := rng64 ((2 : Int64) * x + sg)
  rw [t2] at a1
  have eN : ((2 : Int64) * x + sg).toInt = 2 * x.toInt + sg.toInt := by omega
  obtain ⟨z, hz, rz, ez⟩ := own_stick n1 n2 bc hs
  have zl : own_z (FP.l2d ((2 : Int64) * x + sg)) = 2 * z := by
    refine (own_l2d_rn _).trans ?_
    rw [eN]; exact hz
  have hh := own_is.half.2
  have q := own_mul (z := z) (FP.Core.l2d_fin ((2 : Int64) * x + sg)) own_is.half.1 rz (by
    rw [show own_z (FP.Core.l2d ((2 : Int64) * x + sg)) = _ from zl]
    exact own_hlf hh)
  exact ⟨q.1, q.2.trans ez⟩
theorem own_end {d x : UInt64} {t0 t1 t2 : Int} {a b : Int64} {zc T : Int} (fd : own_F d) (zd : own_z d = own_rn T) (hE : own_F x ∧ own_z x = own_rn ((a + b).toInt * (own_U : Int) + zc)) (hA : a.toInt * (own_U : Int) = t0 ∧ a.toInt.natAbs ≤ 2 ^ 61) (hB : b.toInt * (own_U : Int) = t1 ∧ b.toInt.natAbs ≤ 2 ^ 61) (hc : zc = t2) (hT : T = t0 + t1 + t2) : cmpValue (FP.dcmp d x) .l = (0 : Int32) := by
  refine (own_cmpEq fd hE.1 .l).mpr ?_
  rw [zd, hE.2, hT, (own_I hA.2 hB.2).1, Int.add_mul, hA.1, hB.1, hc]
theorem own_p0 (x y z : Int) : 0 + x + y + z = x + y + z := by omega
theorem own_p1 (x y z : Int) : 0 + x + z + y = x + y + z := by omega
theorem own_p2 (x y z : Int) : 0 + y + x + z = x + y + z := by omega
theorem own_p3 (x y z : Int) : 0 + y + z + x = x + y + z := by omega
theorem own_p4 (x y z : Int) : 0 + z + x + y = x + y + z := by omega
theorem own_p5 (x y z : Int) : 0 + z + y + x = x + y + z := by omega
theorem own_ef_rm0 (m : MethodId) (i0 : Int32) (i1 : Int32) (i2 : Int32) (i3 : Int32) (i4 : Int32) : entryFrame m #[(.int i0), (.int i1), (.int i2), (.int i3), (.int i4)] maxLocals = mkF m 0 #[.val (.int i0), .val (.int i1), .val (.int i2), .val (.int i3), .val (.int i4), .unset, .unset, .unset, .unset, .unset, .unset, .unset, .unset, .unset, .unset, .unset, .unset, .unset, .unset, .unset, .unset, .unset, .unset, .unset, .unset, .unset, .unset, .unset, .unset, .unset, .unset, .unset, .unset, .unset] [] := by first | (simp [entryFrame, mkF, argsToLocals, Value.category, maxLocals]; done) | rfl
def Q_rm0 (Z : State) (i0 : Int32) (i1 : Int32) (i2 : Int32) (i3 : Int32) (i4 : Int32) (h0 : Heap) (n0 : Nat) (v : Option Value) (h : Heap) (L : List Loc) : Prop := v = some (.int 1) ∧ Fr n0 L
theorem own_pd3 : parseMethodDescriptor "()V" = some ⟨[], none⟩ := by decide +kernel
theorem own_pd4 : parseMethodDescriptor "(Lcom/example/outpost/outpost/service/split/ExactSum;ZD)V" = some ⟨[(.object "com/example/outpost/outpost/service/split/ExactSum"), .boolean, .double], none⟩ := by decide +kernel
theorem own_pd5 : parseMethodDescriptor "()D" = some ⟨[], some .double⟩ := by decide +kernel
set_option maxRecDepth 65536 in
set_option maxHeartbeats 40000000 in
theorem rm0 (l : Launch) (Z : State) (a0 : Array Value) (hw : ∀ d ∈ tables_1, d.before a0 Z = true) (ws : List Jvm.Cond) (i0 : Int32) (i1 : Int32) (i2 : Int32) (i3 : Int32) (i4 : Int32) (h0 : Heap) (n0 : Nat) (Z0 : n0 ≤ h0.size)  :
    MetFree l x (head1 (Jvm.Cond.code x code maxLocals ret :: ws) room_1) (fun aa U => aa = #[(.int i0), (.int i1), (.int i2), (.int i3), (.int i4)] ∧ Z.Warmed39 U.vm ∧ U.heap = h0) (fun _ _ _ _ _ => True) (fun _ U ou U' => ∃ v L, ou = .returned v ∧ Q_rm0 Z i0 i1 i2 i3 i4 h0 n0 v U'.heap L ∧ FrameEnd U ou U' L room_1.cells room_1.slots) := by
  refine MetFree.of_bodySF (plainFor_of_name own_pn1) hisR ?_
  intro p e s m args below meth c s₁ Bd hml0 hP hK
  obtain ⟨rfl, hZ, hh⟩ := hP
  have hx := Bd.exec
  have hby := Bd.bytes
  have hml : c.maxLocals = 34 := hml0
  have hown : s.vm.findClass "com/example/outpost/outpost/service/split/ExactSumRoundedPinLaw" = some m.cls := findClass_of_methodNamed Bd.named
  have hnm := (name_of_methodNamed Bd.named Bd.method).1
  have X0 : Stand p l e room_1 s m #[(.int i0), (.int i1), (.int i2), (.int i3), (.int i4)] below meth c s₁ [] 0 0 := Stand.of_body Bd
  have e0 : s₁.heap = h0 := by rw [← hh, Bd.state]; rfl
  have N0 := Fr.nil n0
  show own_Go p e below (fun o u L => FrameEnd s o u L room_1.cells room_1.slots) (Q_rm0 Z i0 i1 i2 i3 i4 h0 n0) (s₁.setTop (entryFrame m #[(.int i0), (.int i1), (.int i2), (.int i3), (.int i4)] maxLocals))
  rw [own_ef_rm0 m i0 i1 i2 i3 i4]
  show own_Go _ _ _ _ _ (State.setTop _ (mkF _ 0 #[.val (.int i0), .val (.int i1), .val (.int i2), .val (.int i3), .val (.int i4), .unset, .unset, .unset, .unset, .unset, .unset, .unset, .unset, .unset, .unset, .unset, .unset, .unset, .unset, .unset, .unset, .unset, .unset, .unset, .unset, .unset, .unset, .unset, .unset, .unset, .unset, .unset, .unset, .unset] []))
  refine own_iloadN X0 hx 1 rfl (hb hby at_0) rfl ?_
  refine own_bipush X0 hx 3 rfl (hb hby at_1) (31 : Int32) rfl ?_
  refine own_iand X0 hx 4 rfl (hb hby at_3) _ rfl ?_
  refine own_bipush X0 hx 6 rfl (hb hby at_4) (31 : Int32) rfl ?_
  refine own_irem X0 hx 7 rfl (hb hby at_6) (by decide) _ rfl ?_
  refine own_istore X0 hx 9 rfl (hb hby at_7) #[.val (.int i0), .val (.int i1), .val (.int i2), .val (.int i3), .val (.int i4), .val (.int ((i3 &&& (31 : Int32)) % (31 : Int32))), .unset, .unset, .unset, .unset, .unset, .unset, .unset, .unset, .unset, .unset, .unset, .unset, .unset, .unset, .unset, .unset, .unset, .unset, .unset, .unset, .unset, .unset, .unset, .unset, .unset, .unset, .unset, .unset] rfl ?_
  show own_Go _ _ _ _ _ (State.setTop _ (mkF _ 9 #[.val (.int i0), .val (.int i1), .val (.int i2), .val (.int i3), .val (.int i4), .val (.int (own_sa i3)), .unset, .unset, .unset, .unset, .unset, .unset, .unset, .unset, .unset, .unset, .unset, .unset, .unset, .unset, .unset, .unset, .unset, .unset, .unset, .unset, .unset, .unset, .unset, .unset, .unset, .unset, .unset, .unset] []))
  refine own_iloadN X0 hx 10 rfl (hb hby at_9) rfl ?_
  refine own_iconst X0 hx 11 rfl (hb hby at_10) (5 : Int32) rfl ?_
  refine own_iushr X0 hx 12 rfl (hb hby at_11) _ rfl ?_
  refine own_bipush X0 hx 14 rfl (hb hby at_12) (31 : Int32) rfl ?_
  refine own_iand X0 hx 15 rfl (hb hby at_14) _ rfl ?_
  refine own_bipush X0 hx 17 rfl (hb hby at_15) (31 : Int32) rfl ?_
  refine own_irem X0 hx 18 rfl (hb hby at_17) (by decide) _ rfl ?_
  refine own_istore X0 hx 20 rfl (hb hby at_18) #[.val (.int i0), .val (.int i1), .val (.int i2), .val (.int i3), .val (.int i4), .val (.int (own_sa i3)), .val (.int ((((i3.toUInt32 >>> ((5 : Int32) &&& 31).toUInt32).toInt32) &&& (31 : Int32)) % (31 : Int32))), .unset, .unset, .unset, .unset, .unset, .unset, .unset, .unset, .unset, .unset, .unset, .unset, .unset, .unset, .unset, .unset, .unset, .unset, .unset, .unset, .unset, .unset, .unset, .unset, .unset, .unset, .unset] rfl ?_
  show own_Go _ _ _ _ _ (State.setTop _ (mkF _ 20 #[.val (.int i0), .val (.int i1), .val (.int i2), .val (.int i3), .val (.int i4), .val (.int (own_sa i3)), .val (.int (own_sb i3)), .unset, .unset, .unset, .unset, .unset, .unset, .unset, .unset, .unset, .unset, .unset, .unset, .unset, .unset, .unset, .unset, .unset, .unset, .unset, .unset, .unset, .unset, .unset, .unset, .unset, .unset, .unset] []))
  refine own_bipush X0 hx 22 rfl (hb hby at_20) (32 : Int32) rfl ?_
  refine own_iloadN X0 hx 23 rfl (hb hby at_22) rfl ?_
  refine own_bipush X0 hx 25 rfl (hb hby at_23) (10 : Int32) rfl ?_
  refine own_iushr X0 hx 26 rfl (hb hby at_25) _ rfl ?_
  refine own_bipush X0 hx 28 rfl (hb hby at_26) (31 : Int32) rfl ?_
  refine own_iand X0 hx 29 rfl (hb hby at_28) _ rfl ?_
  refine own_bipush X0 hx 31 rfl (hb hby at_29) (31 : Int32) rfl ?_
  refine own_irem X0 hx 32 rfl (hb hby at_31) (by decide) _ rfl ?_
  refine own_iadd X0 hx 33 rfl (hb hby at_32) _ rfl ?_
  refine own_istore X0 hx 35 rfl (hb hby at_33) #[.val (.int i0), .val (.int i1), .val (.int i2), .val (.int i3), .val (.int i4), .val (.int (own_sa i3)), .val (.int (own_sb i3)), .val (.int ((32 : Int32) + ((((i3.toUInt32 >>> ((10 : Int32) &&& 31).toUInt32).toInt32) &&& (31 : Int32)) % (31 : Int32)))), .unset, .unset, .unset, .unset, .unset, .unset, .unset, .unset, .unset, .unset, .unset, .unset, .unset, .unset, .unset, .unset, .unset, .unset, .unset, .unset, .unset, .unset, .unset, .unset, .unset, .unset] rfl ?_
  have J47 : ∀ (f0 : Int32), (f0 = 0 ∨ f0 = 1) → own_Go p e below (fun o u L => FrameEnd s o u L room_1.cells room_1.slots) (Q_rm0 Z i0 i1 i2 i3 i4 h0 n0) (s₁.setTop (mkF m 47 #[.val (.int i0), .val (.int i1), .val (.int i2), .val (.int i3), .val (.int i4), .val (.int (own_sa i3)), .val (.int (own_sb i3)), .val (.int (own_tt i3)), .unset, .unset, .unset, .unset, .unset, .unset, .unset, .unset, .unset, .unset, .unset, .unset, .unset, .unset, .unset, .unset, .unset, .unset, .unset, .unset, .unset, .unset, .unset, .unset, .unset, .unset] [(.int f0)])) := by
    intro f0 hf0
    show own_Go _ _ _ _ _ (State.setTop _ (mkF _ 47 #[.val (.int i0), .val (.int i1), .val (.int i2), .val (.int i3), .val (.int i4), .val (.int (own_sa i3)), .val (.int (own_sb i3)), .val (.int (own_tt i3)), .unset, .unset, .unset, .unset, .unset, .unset, .unset, .unset, .unset, .unset, .unset, .unset, .unset, .unset, .unset, .unset, .unset, .unset, .unset, .unset, .unset, .unset, .unset, .unset, .unset, .unset] [(.int f0)]))
    refine own_istore X0 hx 49 rfl (hb hby at_47) #[.val (.int i0), .val (.int i1), .val (.int i2), .val (.int i3), .val (.int i4), .val (.int (own_sa i3)), .val (.int (own_sb i3)), .val (.int (own_tt i3)), .val (.int f0), .unset, .unset, .unset, .unset, .unset, .unset, .unset, .unset, .unset, .unset, .unset, .unset, .unset, .unset, .unset, .unset, .unset, .unset, .unset, .unset, .unset, .unset, .unset, .unset, .unset] rfl ?_
    have J61 : ∀ (f1 : Int32), (f1 = 0 ∨ f1 = 1) → own_Go p e below (fun o u L => FrameEnd s o u L room_1.cells room_1.slots) (Q_rm0 Z i0 i1 i2 i3 i4 h0 n0) (s₁.setTop (mkF m 61 #[.val (.int i0), .val (.int i1), .val (.int i2), .val (.int i3), .val (.int i4), .val (.int (own_sa i3)), .val (.int (own_sb i3)), .val (.int (own_tt i3)), .val (.int f0), .unset, .unset, .unset, .unset, .unset, .unset, .unset, .unset, .unset, .unset, .unset, .unset, .unset, .unset, .unset, .unset, .unset, .unset, .unset, .unset, .unset, .unset, .unset, .unset, .unset] [(.int f1)])) := by
      intro f1 hf1
      show own_Go _ _ _ _ _ (State.setTop _ (mkF _ 61 _ [(.int f1)]))
      refine own_istore X0 hx 63 rfl (hb hby at_61) #[.val (.int i0), .val (.int i1), .val (.int i2), .val (.int i3), .val (.int i4), .val (.int (own_sa i3)), .val (.int (own_sb i3)), .val (.int (own_tt i3)), .val (.int f0), .val (.int f1), .unset, .unset, .unset, .unset, .unset, .unset, .unset, .unset, .unset, .unset, .unset, .unset, .unset, .unset, .unset, .unset, .unset, .unset, .unset, .unset, .unset, .unset, .unset, .unset] rfl ?_
      have J75 : ∀ (f2 : Int32), (f2 = 0 ∨ f2 = 1) → own_Go p e below (fun o u L => FrameEnd s o u L room_1.cells room_1.slots) (Q_rm0 Z i0 i1 i2 i3 i4 h0 n0) (s₁.setTop (mkF m 75 #[.val (.int i0), .val (.int i1), .val (.int i2), .val (.int i3), .val (.int i4), .val (.int (own_sa i3)), .val (.int (own_sb i3)), .val (.int (own_tt i3)), .val (.int f0), .val (.int f1), .unset, .unset, .unset, .unset, .unset, .unset, .unset, .unset, .unset, .unset, .unset, .unset, .unset, .unset, .unset, .unset, .unset, .unset, .unset, .unset, .unset, .unset, .unset, .unset] [(.int f2)])) := by
        intro f2 hf2
        show own_Go _ _ _ _ _ (State.setTop _ (mkF _ 75 _ [(.int f2)]))
        refine own_istore X0 hx 77 rfl (hb hby at_75) #[.val (.int i0), .val (.int i1), .val (.int i2), .val (.int i3), .val (.int i4), .val (.int (own_sa i3)), .val (.int (own_sb i3)), .val (.int (own_tt i3)), .val (.int f0), .val (.int f1), .val (.int f2), .unset, .unset, .unset, .unset, .unset, .unset, .unset, .unset, .unset, .unset, .unset, .unset, .unset, .unset, .unset, .unset, .unset, .unset, .unset, .unset, .unset, .unset, .unset] rfl ?_
        refine own_iload X0 hx 79 rfl (hb hby at_77) rfl ?_
        refine own_iconst X0 hx 80 rfl (hb hby at_79) (3 : Int32) rfl ?_
        refine own_iushr X0 hx 81 rfl (hb hby at_80) _ rfl ?_
        refine own_bipush X0 hx 83 rfl (hb hby at_81) (6 : Int32) rfl ?_
        refine own_irem X0 hx 84 rfl (hb hby at_83) (by decide) _ rfl ?_
        refine own_istore X0 hx 86 rfl (hb hby at_84) #[.val (.int i0), .val (.int i1), .val (.int i2), .val (.int i3), .val (.int i4), .val (.int (own_sa i3)), .val (.int (own_sb i3)), .val (.int (own_tt i3)), .val (.int f0), .val (.int f1), .val (.int f2), .val (.int (((i4.toUInt32 >>> ((3 : Int32) &&& 31).toUInt32).toInt32) % (6 : Int32))), .unset, .unset, .unset, .unset, .unset, .unset, .unset, .unset, .unset, .unset, .unset, .unset, .unset, .unset, .unset, .unset, .unset, .unset, .unset, .unset, .unset, .unset] rfl ?_
        show own_Go _ _ _ _ _ (State.setTop _ (mkF _ 86 #[.val (.int i0), .val (.int i1), .val (.int i2), .val (.int i3), .val (.int i4), .val (.int (own_sa i3)), .val (.int (own_sb i3)), .val (.int (own_tt i3)), .val (.int f0), .val (.int f1), .val (.int f2), .val (.int (own_pm i4)), .unset, .unset, .unset, .unset, .unset, .unset, .unset, .unset, .unset, .unset, .unset, .unset, .unset, .unset, .unset, .unset, .unset, .unset, .unset, .unset, .unset, .unset] []))
        refine own_iloadN X0 hx 87 rfl (hb hby at_86) rfl ?_
        refine own_i2l X0 hx 88 rfl (hb hby at_87) _ rfl ?_
        refine own_iload X0 hx 90 rfl (hb hby at_88) rfl ?_
        refine own_lshl X0 hx 91 rfl (hb hby at_90) _ rfl ?_
        refine own_lstore X0 hx 93 rfl (hb hby at_91) #[.val (.int i0), .val (.int i1), .val (.int i2), .val (.int i3), .val (.int i4), .val (.int (own_sa i3)), .val (.int (own_sb i3)), .val (.int (own_tt i3)), .val (.int f0), .val (.int f1), .val (.int f2), .val (.int (own_pm i4)), .val (.long ((i0.toInt64) <<< ((own_sa i3) &&& 0x3f).toInt64)), .second, .unset, .unset, .unset, .unset, .unset, .unset, .unset, .unset, .unset, .unset, .unset, .unset, .unset, .unset, .unset, .unset, .unset, .unset, .unset, .unset] rfl ?_
        show own_Go _ _ _ _ _ (State.setTop _ (mkF _ 93 #[.val (.int i0), .val (.int i1), .val (.int i2), .val (.int i3), .val (.int i4), .val (.int (own_sa i3)), .val (.int (own_sb i3)), .val (.int (own_tt i3)), .val (.int f0), .val (.int f1), .val (.int f2), .val (.int (own_pm i4)), .val (.long (own_A i0 (own_sa i3))), .second, .unset, .unset, .unset, .unset, .unset, .unset, .unset, .unset, .unset, .unset, .unset, .unset, .unset, .unset, .unset, .unset, .unset, .unset, .unset, .unset] []))
        refine own_iloadN X0 hx 94 rfl (hb hby at_93) rfl ?_
        refine own_i2l X0 hx 95 rfl (hb hby at_94) _ rfl ?_
        refine own_iload X0 hx 97 rfl (hb hby at_95) rfl ?_
        refine own_lshl X0 hx 98 rfl (hb hby at_97) _ rfl ?_
        refine own_lstore X0 hx 100 rfl (hb hby at_98) #[.val (.int i0), .val (.int i1), .val (.int i2), .val (.int i3), .val (.int i4), .val (.int (own_sa i3)), .val (.int (own_sb i3)), .val (.int (own_tt i3)), .val (.int f0), .val (.int f1), .val (.int f2), .val (.int (own_pm i4)), .val (.long (own_A i0 (own_sa i3))), .second, .val (.long ((i1.toInt64) <<< ((own_sb i3) &&& 0x3f).toInt64)), .second, .unset, .unset, .unset, .unset, .unset, .unset, .unset, .unset, .unset, .unset, .unset, .unset, .unset, .unset, .unset, .unset, .unset, .unset] rfl ?_
        show own_Go _ _ _ _ _ (State.setTop _ (mkF _ 100 #[.val (.int i0), .val (.int i1), .val (.int i2), .val (.int i3), .val (.int i4), .val (.int (own_sa i3)), .val (.int (own_sb i3)), .val (.int (own_tt i3)), .val (.int f0), .val (.int f1), .val (.int f2), .val (.int (own_pm i4)), .val (.long (own_A i0 (own_sa i3))), .second, .val (.long (own_A i1 (own_sb i3))), .second, .unset, .unset, .unset, .unset, .unset, .unset, .unset, .unset, .unset, .unset, .unset, .unset, .unset, .unset, .unset, .unset, .unset, .unset] []))
        refine own_lload X0 hx 102 rfl (hb hby at_100) rfl ?_
        refine own_l2d X0 hx 103 rfl (hb hby at_102) (own_x0 i0 i3) rfl ?_
        refine own_dstore X0 hx 105 rfl (hb hby at_103) #[.val (.int i0), .val (.int i1), .val (.int i2), .val (.int i3), .val (.int i4), .val (.int (own_sa i3)), .val (.int (own_sb i3)), .val (.int (own_tt i3)), .val (.int f0), .val (.int f1), .val (.int f2), .val (.int (own_pm i4)), .val (.long (own_A i0 (own_sa i3))), .second, .val (.long (own_A i1 (own_sb i3))), .second, .val (.double (own_x0 i0 i3)), .second, .unset, .unset, .unset, .unset, .unset, .unset, .unset, .unset, .unset, .unset, .unset, .unset, .unset, .unset, .unset, .unset] rfl ?_
        refine own_lload X0 hx 107 rfl (hb hby at_105) rfl ?_
        refine own_l2d X0 hx 108 rfl (hb hby at_107) (own_x1 i1 i3) rfl ?_
        refine own_dstore X0 hx 110 rfl (hb hby at_108) #[.val (.int i0), .val (.int i1), .val (.int i2), .val (.int i3), .val (.int i4), .val (.int (own_sa i3)), .val (.int (own_sb i3)), .val (.int (own_tt i3)), .val (.int f0), .val (.int f1), .val (.int f2), .val (.int (own_pm i4)), .val (.long (own_A i0 (own_sa i3))), .second, .val (.long (own_A i1 (own_sb i3))), .second, .val (.double (own_x0 i0 i3)), .second, .val (.double (own_x1 i1 i3)), .second, .unset, .unset, .unset, .unset, .unset, .unset, .unset, .unset, .unset, .unset, .unset, .unset, .unset, .unset] rfl ?_
        refine own_iloadN X0 hx 111 rfl (hb hby at_110) rfl ?_
        refine own_i2d X0 hx 112 rfl (hb hby at_111) _ rfl ?_
        refine own_lconst X0 hx 113 rfl (hb hby at_112) (1 : Int64) rfl ?_
        refine own_iload X0 hx 115 rfl (hb hby at_113) rfl ?_
        refine own_lshl X0 hx 116 rfl (hb hby at_115) _ rfl ?_
        refine own_l2d X0 hx 117 rfl (hb hby at_116) _ rfl ?_
        refine own_ddiv X0 hx 118 rfl (hb hby at_117) (own_nf (own_x2_f i2 i3)) (own_x2 i2 i3) rfl ?_
        refine own_dstore X0 hx 120 rfl (hb hby at_118) #[.val (.int i0), .val (.int i1), .val (.int i2), .val (.int i3), .val (.int i4), .val (.int (own_sa i3)), .val (.int (own_sb i3)), .val (.int (own_tt i3)), .val (.int f0), .val (.int f1), .val (.int f2), .val (.int (own_pm i4)), .val (.long (own_A i0 (own_sa i3))), .second, .val (.long (own_A i1 (own_sb i3))), .second, .val (.double (own_x0 i0 i3)), .second, .val (.double (own_x1 i1 i3)), .second, .val (.double (own_x2 i2 i3)), .second, .unset, .unset, .unset, .unset, .unset, .unset, .unset, .unset, .unset, .unset, .unset, .unset] rfl ?_
        have J131 : ∀ (a1 : Int64), (a1.toInt * (own_U : Int) = (own_t f0 (own_x0 i0 i3)) ∧ a1.toInt.natAbs ≤ 2 ^ 61) → own_Go p e below (fun o u L => FrameEnd s o u L room_1.cells room_1.slots) (Q_rm0 Z i0 i1 i2 i3 i4 h0 n0) (s₁.setTop (mkF m 131 #[.val (.int i0), .val (.int i1), .val (.int i2), .val (.int i3), .val (.int i4), .val (.int (own_sa i3)), .val (.int (own_sb i3)), .val (.int (own_tt i3)), .val (.int f0), .val (.int f1), .val (.int f2), .val (.int (own_pm i4)), .val (.long (own_A i0 (own_sa i3))), .second, .val (.long (own_A i1 (own_sb i3))), .second, .val (.double (own_x0 i0 i3)), .second, .val (.double (own_x1 i1 i3)), .second, .val (.double (own_x2 i2 i3)), .second, .unset, .unset, .unset, .unset, .unset, .unset, .unset, .unset, .unset, .unset, .unset, .unset] [(.long a1)])) := by
          intro a1 hA
          have J142 : ∀ (b1 : Int64), (b1.toInt * (own_U : Int) = (own_t f1 (own_x1 i1 i3)) ∧ b1.toInt.natAbs ≤ 2 ^ 61) → own_Go p e below (fun o u L => FrameEnd s o u L room_1.cells room_1.slots) (Q_rm0 Z i0 i1 i2 i3 i4 h0 n0) (s₁.setTop (mkF m 142 #[.val (.int i0), .val (.int i1), .val (.int i2), .val (.int i3), .val (.int i4), .val (.int (own_sa i3)), .val (.int (own_sb i3)), .val (.int (own_tt i3)), .val (.int f0), .val (.int f1), .val (.int f2), .val (.int (own_pm i4)), .val (.long (own_A i0 (own_sa i3))), .second, .val (.long (own_A i1 (own_sb i3))), .second, .val (.double (own_x0 i0 i3)), .second, .val (.double (own_x1 i1 i3)), .second, .val (.double (own_x2 i2 i3)), .second, .unset, .unset, .unset, .unset, .unset, .unset, .unset, .unset, .unset, .unset, .unset, .unset] [(.long b1), (.long a1)])) := by
            intro b1 hB
            show own_Go _ _ _ _ _ (State.setTop _ (mkF _ 142 _ [(.long b1), (.long a1)]))
            refine own_ladd X0 hx 143 rfl (hb hby at_142) _ rfl ?_
            refine own_lstore X0 hx 145 rfl (hb hby at_143) #[.val (.int i0), .val (.int i1), .val (.int i2), .val (.int i3), .val (.int i4), .val (.int (own_sa i3)), .val (.int (own_sb i3)), .val (.int (own_tt i3)), .val (.int f0), .val (.int f1), .val (.int f2), .val (.int (own_pm i4)), .val (.long (own_A i0 (own_sa i3))), .second, .val (.long (own_A i1 (own_sb i3))), .second, .val (.double (own_x0 i0 i3)), .second, .val (.double (own_x1 i1 i3)), .second, .val (.double (own_x2 i2 i3)), .second, .val (.long (a1 + b1)), .second, .unset, .unset, .unset, .unset, .unset, .unset, .unset, .unset, .unset, .unset] rfl ?_
            have J156 : ∀ (c1 : UInt64), (own_F c1 ∧ own_z c1 = (own_t f2 (own_x2 i2 i3)) ∧ 2 * (own_z c1).natAbs ≤ own_U) → own_Go p e below (fun o u L => FrameEnd s o u L room_1.cells room_1.slots) (Q_rm0 Z i0 i1 i2 i3 i4 h0 n0) (s₁.setTop (mkF m 156 #[.val (.int i0), .val (.int i1), .val (.int i2), .val (.int i3), .val (.int i4), .val (.int (own_sa i3)), .val (.int (own_sb i3)), .val (.int (own_tt i3)), .val (.int f0), .val (.int f1), .val (.int f2), .val (.int (own_pm i4)), .val (.long (own_A i0 (own_sa i3))), .second, .val (.long (own_A i1 (own_sb i3))), .second, .val (.double (own_x0 i0 i3)), .second, .val (.double (own_x1 i1 i3)), .second, .val (.double (own_x2 i2 i3)), .second, .val (.long (a1 + b1)), .second, .unset, .unset, .unset, .unset, .unset, .unset, .unset, .unset, .unset, .unset] [(.double c1)])) := by
              intro c1 hc
              have hI := (own_I hA.2 hB.2).2
              show own_Go _ _ _ _ _ (State.setTop _ (mkF _ 156 _ [(.double c1)]))
              refine own_dstore X0 hx 158 rfl (hb hby at_156) #[.val (.int i0), .val (.int i1), .val (.int i2), .val (.int i3), .val (.int i4), .val (.int (own_sa i3)), .val (.int (own_sb i3)), .val (.int (own_tt i3)), .val (.int f0), .val (.int f1), .val (.int f2), .val (.int (own_pm i4)), .val (.long (own_A i0 (own_sa i3))), .second, .val (.long (own_A i1 (own_sb i3))), .second, .val (.double (own_x0 i0 i3)), .second, .val (.double (own_x1 i1 i3)), .second, .val (.double (own_x2 i2 i3)), .second, .val (.long (a1 + b1)), .second, .val (.double c1), .second, .unset, .unset, .unset, .unset, .unset, .unset, .unset, .unset] rfl ?_
              refine own_lload X0 hx 160 rfl (hb hby at_158) rfl ?_
              refine own_l2d X0 hx 161 rfl (hb hby at_160) _ rfl ?_
              refine own_d2l X0 hx 162 rfl (hb hby at_161) _ rfl ?_
              refine own_lload X0 hx 164 rfl (hb hby at_162) rfl ?_
              refine own_lcmp X0 hx 165 rfl (hb hby at_164) _ rfl ?_
              by_cases hc428 : lcmpW (FP.d2l (FP.l2d (a1 + b1))) (a1 + b1) = 0
              ·
                have hE := own_exact hI hc428 hc.1 hc.2.2
                refine own_ifNo X0 hx 168 rfl (hb hby at_165) ((if0 _ _).trans (teq hc428).2) ?_
                refine own_lload X0 hx 170 rfl (hb hby at_168) rfl ?_
                refine own_l2d X0 hx 171 rfl (hb hby at_170) _ rfl ?_
                refine own_dload X0 hx 173 rfl (hb hby at_171) rfl ?_
                refine own_dadd X0 hx 174 rfl (hb hby at_173) (own_nf hE.1) _ rfl ?_
                refine own_dstore X0 hx 176 rfl (hb hby at_174) #[.val (.int i0), .val (.int i1), .val (.int i2), .val (.int i3), .val (.int i4), .val (.int (own_sa i3)), .val (.int (own_sb i3)), .val (.int (own_tt i3)), .val (.int f0), .val (.int f1), .val (.int f2), .val (.int (own_pm i4)), .val (.long (own_A i0 (own_sa i3))), .second, .val (.long (own_A i1 (own_sb i3))), .second, .val (.double (own_x0 i0 i3)), .second, .val (.double (own_x1 i1 i3)), .second, .val (.double (own_x2 i2 i3)), .second, .val (.long (a1 + b1)), .second, .val (.double c1), .second, .val (.double (FP.dadd (FP.l2d (a1 + b1)) c1)), .second, .unset, .unset, .unset, .unset, .unset, .unset] rfl ?_
                refine own_goto X0 hx 222 (hb hby at_176) (by decide) rfl ?_
                refine own_iconst X0 hx 223 rfl (hb hby at_222) (3 : Int32) rfl ?_
                refine own_newA X0 hx hZ (own_hw hw 0 rfl) e0 225 rfl (hb hby at_223) (by decide) 3 (by decide) (by decide) (by decide) (by decide) "[D" (by decide) fun T429 h429 k429 b429 g429 X429 e429 E429 A429 C429 => ?_
                have ge430 : n0 ≤ b429 := Nat.le_trans Z0 (Nat.le_of_eq g429.symm)
                have z431 := Nat.le_trans Z0 E429.1
                have f432 : Arv Z h429 b429 k429 .double (3 : Int32) [(.double (0 : UInt64)), (.double (0 : UInt64)), (.double (0 : UInt64))] (.double (0 : UInt64)) := (Arv.new A429 (by decide)).pad (pad_rep [] (.double (0 : UInt64)) 3)
                refine own_dup X429 hx 226 rfl (hb hby at_225) rfl ?_
                refine own_iconst X429 hx 227 rfl (hb hby at_226) (0 : Int32) rfl ?_
                refine own_dload X429 hx 229 rfl (hb hby at_227) rfl ?_
                refine own_stD X429 hx hZ e429 f432 ⟨by decide, by decide⟩ 0 rfl (Nat.le_of_ble_eq_true rfl) [(.double (own_x0 i0 i3)), (.double (0 : UInt64)), (.double (0 : UInt64))] rfl 230 rfl (hb hby at_229) fun T433 h433 X433 e433 W433 f434 => ?_
                have f435 := C429.wr W433
                have z436 := Nat.le_trans z431 (Keep.of_wr W433).1
                have N437 := Fr.snoc X433 N0 ge430
                refine own_dup X433 hx 231 rfl (hb hby at_230) rfl ?_
                refine own_iconst X433 hx 232 rfl (hb hby at_231) (1 : Int32) rfl ?_
                refine own_dload X433 hx 234 rfl (hb hby at_232) rfl ?_
                refine own_stD X433 hx hZ e433 f434 ⟨by decide, by decide⟩ 1 rfl (Nat.le_of_ble_eq_true rfl) [(.double (own_x0 i0 i3)), (.double (own_x1 i1 i3)), (.double (0 : UInt64))] rfl 235 rfl (hb hby at_234) fun T438 h438 X438 e438 W438 f439 => ?_
                have f440 := f435.wr W438
                have z441 := Nat.le_trans z436 (Keep.of_wr W438).1
                have N442 := Fr.snoc X438 N437 ge430
                refine own_dup X438 hx 236 rfl (hb hby at_235) rfl ?_
                refine own_iconst X438 hx 237 rfl (hb hby at_236) (2 : Int32) rfl ?_
                refine own_dload X438 hx 239 rfl (hb hby at_237) rfl ?_
                refine own_stD X438 hx hZ e438 f439 ⟨by decide, by decide⟩ 2 rfl (Nat.le_of_ble_eq_true rfl) [(.double (own_x0 i0 i3)), (.double (own_x1 i1 i3)), (.double (own_x2 i2 i3))] rfl 240 rfl (hb hby at_239) fun T443 h443 X443 e443 W443 f444 => ?_
                have f445 := f440.wr W443
                have z446 := Nat.le_trans z441 (Keep.of_wr W443).1
                have N447 := Fr.snoc X443 N442 ge430
                refine own_astore X443 hx 242 rfl (hb hby at_240) rfl #[.val (.int i0), .val (.int i1), .val (.int i2), .val (.int i3), .val (.int i4), .val (.int (own_sa i3)), .val (.int (own_sb i3)), .val (.int (own_tt i3)), .val (.int f0), .val (.int f1), .val (.int f2), .val (.int (own_pm i4)), .val (.long (own_A i0 (own_sa i3))), .second, .val (.long (own_A i1 (own_sb i3))), .second, .val (.double (own_x0 i0 i3)), .second, .val (.double (own_x1 i1 i3)), .second, .val (.double (own_x2 i2 i3)), .second, .val (.long (a1 + b1)), .second, .val (.double c1), .second, .val (.double (FP.dadd (FP.l2d (a1 + b1)) c1)), .second, .val (.ref b429), .unset, .unset, .unset, .unset, .unset] rfl ?_
                refine own_iconst X443 hx 243 rfl (hb hby at_242) (3 : Int32) rfl ?_
                refine own_newA X443 hx hZ (own_hw hw 1 rfl) e443 245 rfl (hb hby at_243) (by decide) 3 (by decide) (by decide) (by decide) (by decide) "[Z" (by decide) fun T448 h448 k448 b448 g448 X448 e448 E448 A448 C448 => ?_
                have ne449 : b429 ≠ b448 := Nat.ne_of_lt (Nat.lt_of_lt_of_le f445.lt (Nat.le_of_eq g448.symm))
                have ge450 : n0 ≤ b448 := Nat.le_trans z446 (Nat.le_of_eq g448.symm)
                have f451 := f445.ext E448
                have f452 := f444.ext E448
                have z453 := Nat.le_trans z446 E448.1
                have f454 : Arv Z h448 b448 k448 .boolean (3 : Int32) [(.int (0 : Int32)), (.int (0 : Int32)), (.int (0 : Int32))] (.int (0 : Int32)) := (Arv.new A448 (by decide)).pad (pad_rep [] (.int (0 : Int32)) 3)
                refine own_dup X448 hx 246 rfl (hb hby at_245) rfl ?_
                refine own_iconst X448 hx 247 rfl (hb hby at_246) (0 : Int32) rfl ?_
                refine own_iload X448 hx 249 rfl (hb hby at_247) rfl ?_
                refine own_stZ X448 hx hZ e448 f454 ⟨by decide, by decide⟩ 0 rfl (Nat.le_of_ble_eq_true rfl) [(.int (nar .boolean f0)), (.int (0 : Int32)), (.int (0 : Int32))] rfl 250 rfl (hb hby at_249) fun T455 h455 X455 e455 W455 f456 => ?_
                have f457 := f451.wr W455
                have f458 := f452.other W455 ne449
                have f459 := C448.wr W455
                have z460 := Nat.le_trans z453 (Keep.of_wr W455).1
                have N461 := Fr.snoc X455 N447 ge450
                refine own_dup X455 hx 251 rfl (hb hby at_250) rfl ?_
                refine own_iconst X455 hx 252 rfl (hb hby at_251) (1 : Int32) rfl ?_
                refine own_iload X455 hx 254 rfl (hb hby at_252) rfl ?_
                refine own_stZ X455 hx hZ e455 f456 ⟨by decide, by decide⟩ 1 rfl (Nat.le_of_ble_eq_true rfl) [(.int (nar .boolean f0)), (.int (nar .boolean f1)), (.int (0 : Int32))] rfl 255 rfl (hb hby at_254) fun T462 h462 X462 e462 W462 f463 => ?_
                have f464 := f457.wr W462
                have f465 := f458.other W462 ne449
                have f466 := f459.wr W462
                have z467 := Nat.le_trans z460 (Keep.of_wr W462).1
                have N468 := Fr.snoc X462 N461 ge450
                refine own_dup X462 hx 256 rfl (hb hby at_255) rfl ?_
                refine own_iconst X462 hx 257 rfl (hb hby at_256) (2 : Int32) rfl ?_
                refine own_iload X462 hx 259 rfl (hb hby at_257) rfl ?_
                refine own_stZ X462 hx hZ e462 f463 ⟨by decide, by decide⟩ 2 rfl (Nat.le_of_ble_eq_true rfl) [(.int (nar .boolean f0)), (.int (nar .boolean f1)), (.int (nar .boolean f2))] rfl 260 rfl (hb hby at_259) fun T469 h469 X469 e469 W469 f470 => ?_
                have f471 := f464.wr W469
                have f472 := f465.other W469 ne449
                have f473 := f466.wr W469
                have z474 := Nat.le_trans z467 (Keep.of_wr W469).1
                have N475 := Fr.snoc X469 N468 ge450
                refine own_astore X469 hx 262 rfl (hb hby at_260) rfl #[.val (.int i0), .val (.int i1), .val (.int i2), .val (.int i3), .val (.int i4), .val (.int (own_sa i3)), .val (.int (own_sb i3)), .val (.int (own_tt i3)), .val (.int f0), .val (.int f1), .val (.int f2), .val (.int (own_pm i4)), .val (.long (own_A i0 (own_sa i3))), .second, .val (.long (own_A i1 (own_sb i3))), .second, .val (.double (own_x0 i0 i3)), .second, .val (.double (own_x1 i1 i3)), .second, .val (.double (own_x2 i2 i3)), .second, .val (.long (a1 + b1)), .second, .val (.double c1), .second, .val (.double (FP.dadd (FP.l2d (a1 + b1)) c1)), .second, .val (.ref b429), .val (.ref b448), .unset, .unset, .unset, .unset] rfl ?_
                refine own_iload X469 hx 264 rfl (hb hby at_262) rfl ?_
                by_cases hc476 : own_pm i4 = (0 : Int32)
                ·
                  refine own_ifNo X469 hx 267 rfl (hb hby at_264) ((if0 _ _).trans (teq hc476).2) ?_
                  refine own_iconst X469 hx 268 rfl (hb hby at_267) (0 : Int32) rfl ?_
                  refine own_istore X469 hx 270 rfl (hb hby at_268) #[.val (.int i0), .val (.int i1), .val (.int i2), .val (.int i3), .val (.int i4), .val (.int (own_sa i3)), .val (.int (own_sb i3)), .val (.int (own_tt i3)), .val (.int f0), .val (.int f1), .val (.int f2), .val (.int (own_pm i4)), .val (.long (own_A i0 (own_sa i3))), .second, .val (.long (own_A i1 (own_sb i3))), .second, .val (.double (own_x0 i0 i3)), .second, .val (.double (own_x1 i1 i3)), .second, .val (.double (own_x2 i2 i3)), .second, .val (.long (a1 + b1)), .second, .val (.double c1), .second, .val (.double (FP.dadd (FP.l2d (a1 + b1)) c1)), .second, .val (.ref b429), .val (.ref b448), .val (.int (0 : Int32)), .unset, .unset, .unset] rfl ?_
                  refine own_iconst X469 hx 271 rfl (hb hby at_270) (1 : Int32) rfl ?_
                  refine own_istore X469 hx 273 rfl (hb hby at_271) #[.val (.int i0), .val (.int i1), .val (.int i2), .val (.int i3), .val (.int i4), .val (.int (own_sa i3)), .val (.int (own_sb i3)), .val (.int (own_tt i3)), .val (.int f0), .val (.int f1), .val (.int f2), .val (.int (own_pm i4)), .val (.long (own_A i0 (own_sa i3))), .second, .val (.long (own_A i1 (own_sb i3))), .second, .val (.double (own_x0 i0 i3)), .second, .val (.double (own_x1 i1 i3)), .second, .val (.double (own_x2 i2 i3)), .second, .val (.long (a1 + b1)), .second, .val (.double c1), .second, .val (.double (FP.dadd (FP.l2d (a1 + b1)) c1)), .second, .val (.ref b429), .val (.ref b448), .val (.int (0 : Int32)), .val (.int (1 : Int32)), .unset, .unset] rfl ?_
                  refine own_iconst X469 hx 274 rfl (hb hby at_273) (2 : Int32) rfl ?_
                  refine own_istore X469 hx 276 rfl (hb hby at_274) #[.val (.int i0), .val (.int i1), .val (.int i2), .val (.int i3), .val (.int i4), .val (.int (own_sa i3)), .val (.int (own_sb i3)), .val (.int (own_tt i3)), .val (.int f0), .val (.int f1), .val (.int f2), .val (.int (own_pm i4)), .val (.long (own_A i0 (own_sa i3))), .second, .val (.long (own_A i1 (own_sb i3))), .second, .val (.double (own_x0 i0 i3)), .second, .val (.double (own_x1 i1 i3)), .second, .val (.double (own_x2 i2 i3)), .second, .val (.long (a1 + b1)), .second, .val (.double c1), .second, .val (.double (FP.dadd (FP.l2d (a1 + b1)) c1)), .second, .val (.ref b429), .val (.ref b448), .val (.int (0 : Int32)), .val (.int (1 : Int32)), .val (.int (2 : Int32)), .unset] rfl ?_
                  refine own_goto X469 hx 360 (hb hby at_276) (by decide) rfl ?_
                  refine own_new X469 hx hZ hown (own_hw hw 2 rfl) (own_hw hw 3 rfl) (own_hw hw 4 rfl) e469 363 rfl (hb hby at_360) (by decide) (by decide) fun T477 h477 b477 g477 X477 e477 E477 A477 D477 => ?_
                  have ne478 : b429 ≠ b477 := Nat.ne_of_lt (Nat.lt_of_lt_of_le f471.lt (Nat.le_of_eq g477.symm))
                  have ne479 : b448 ≠ b477 := Nat.ne_of_lt (Nat.lt_of_lt_of_le f473.lt (Nat.le_of_eq g477.symm))
                  have ge480 : n0 ≤ b477 := Nat.le_trans z474 (Nat.le_of_eq g477.symm)
                  have f481 := f471.ext E477
                  have f482 := f472.ext E477
                  have f483 := f473.ext E477
                  have f484 := f470.ext E477
                  have z485 := Nat.le_trans z474 E477.1
                  have f486 : Fld Z h477 b477 "com/example/outpost/outpost/service/split/ExactSum" "parts" "[D" .null := D477 (Or.inl (own_hw hw 12 rfl)) (ty := (.array .double)) (by decide)
                  have f487 : Fld Z h477 b477 "com/example/outpost/outpost/service/split/ExactSum" "scratch" "[D" .null := D477 (Or.inl (own_hw hw 14 rfl)) (ty := (.array .double)) (by decide)
                  have f488 : Fld Z h477 b477 "com/example/outpost/outpost/service/split/ExactSum" "count" "I" (.int (0 : Int32)) := D477 (Or.inl (own_hw hw 25 rfl)) (ty := .int) (by decide)
                  refine own_dup X477 hx 364 rfl (hb hby at_363) rfl ?_
                  refine own_special X477 hx hZ (y := (⟨"com/example/outpost/outpost/service/split/ExactSum", "<init>", "()V"⟩ : MethodName)) hown rfl (own_hw hw 5 rfl) (own_hw hw 6 rfl) (a := b477) (by decide) rfl (rm_init l Z a0 hw [] b477 h477 n0 z485 A477 f486 f488 f487 ge480) (own_hw hw 7 rfl) (own_hw hw 4 rfl) (by decide) e477 (by rw [hml]; rfl) [] 1 (by decide) (Nat.le_of_eq rfl) (by decide) (by decide) (lenOf own_pd3 rfl) rfl rfl 367 rfl (hb hby at_364) fun v489 T489 Lc489 X489 hQ489 => ?_
                  obtain ⟨rfl, Nq489, Kq489, a489, k489, sz489, f490, f491, f492, f493⟩ := hQ489
                  have N494 := Fr.app N475 Nq489
                  have ne495 : b429 ≠ a489 := Nat.ne_of_lt (Nat.lt_of_lt_of_le f481.lt sz489)
                  have ne496 : b448 ≠ a489 := Nat.ne_of_lt (Nat.lt_of_lt_of_le f483.lt sz489)
                  have ne497 : b477 ≠ a489 := Nat.ne_of_lt (Nat.lt_of_lt_of_le A477.lt sz489)
                  have ge498 : n0 ≤ a489 := Nat.le_trans z485 sz489
                  have f499 := f481.keep Kq489
                  have f500 := f482.keep Kq489 (ninS ne478 nin0)
                  have f501 := f483.keep Kq489
                  have f502 := f484.keep Kq489 (ninS ne479 nin0)
                  have f503 := A477.keep Kq489
                  have z507 := Nat.le_trans z485 Kq489.1
                  show own_Go _ _ _ _ _ (State.setTop _ (mkF _ 367 _ [(.ref b477)]))
                  refine own_astore X489 hx 369 rfl (hb hby at_367) rfl #[.val (.int i0), .val (.int i1), .val (.int i2), .val (.int i3), .val (.int i4), .val (.int (own_sa i3)), .val (.int (own_sb i3)), .val (.int (own_tt i3)), .val (.int f0), .val (.int f1), .val (.int f2), .val (.int (own_pm i4)), .val (.long (own_A i0 (own_sa i3))), .second, .val (.long (own_A i1 (own_sb i3))), .second, .val (.double (own_x0 i0 i3)), .second, .val (.double (own_x1 i1 i3)), .second, .val (.double (own_x2 i2 i3)), .second, .val (.long (a1 + b1)), .second, .val (.double c1), .second, .val (.double (FP.dadd (FP.l2d (a1 + b1)) c1)), .second, .val (.ref b429), .val (.ref b448), .val (.int (0 : Int32)), .val (.int (1 : Int32)), .val (.int (2 : Int32)), .val (.ref b477)] rfl ?_
                  refine own_aload X489 hx 371 rfl (hb hby at_369) rfl rfl ?_
                  refine own_aload X489 hx 373 rfl (hb hby at_371) rfl rfl ?_
                  refine own_iload X489 hx 375 rfl (hb hby at_373) rfl ?_
                  refine own_ldZ X489 hx hZ rfl f502 ⟨by decide, by decide⟩ f0 (congrArg Value.int (own_nar hf0)) 376 rfl (hb hby at_375) ?_
                  refine own_aload X489 hx 378 rfl (hb hby at_376) rfl rfl ?_
                  refine own_iload X489 hx 380 rfl (hb hby at_378) rfl ?_
                  refine own_ldD X489 hx hZ rfl f500 ⟨by decide, by decide⟩ (own_x0 i0 i3) rfl 381 rfl (hb hby at_380) ?_
                  refine own_callS X489 hx hZ (y := (⟨"com/example/outpost/outpost/service/split/ExactSumRoundedPinLaw", "addIf", "(Lcom/example/outpost/outpost/service/split/ExactSum;ZD)V"⟩ : MethodName)) hown (own_hw hw 15 rfl) (own_hw hw 16 rfl) (by decide) (rm_if0 l Z a0 hw [] b477 f0 (own_x0 i0 i3) a489 k489 (0 : Int32) (0 : UInt64) (0 : UInt64) (0 : UInt64) (0 : UInt64) (0 : Int) T489.heap n0 z507 f490 f491 f492 f493 ge480 ge498 ne497 (own_x0_f i0 i3) (own_x0_b i0 i3) ⟨rfl, rfl⟩ own_bt0) (own_hw hw 18 rfl) (own_hw hw 17 rfl) (by decide) rfl (by rw [hml]; rfl) [(.ref b477), (.int f0), (.double (own_x0 i0 i3))] 0 (by decide) (Nat.le_of_eq rfl) (by decide) (by decide) (lenOf own_pd4 rfl) rfl rfl 384 rfl (hb hby at_381) fun v508 T508 Lc508 X508 hQ508 => ?_
                  obtain ⟨rfl, Nq508, Kq508, c508, r0508, r1508, r2508, f509, f510, f511, f512, P508⟩ := hQ508
                  have N513 := Fr.app N494 Nq508
                  have f514 := f499.keep Kq508
                  have f515 := f500.keep Kq508 (ninS ne478 (ninS ne495 nin0))
                  have f516 := f501.keep Kq508
                  have f517 := f502.keep Kq508 (ninS ne479 (ninS ne496 nin0))
                  have f518 := f490.keep Kq508
                  have z522 := Nat.le_trans z507 Kq508.1
                  show own_Go _ _ _ _ _ (State.setTop _ (mkF _ 384 _ []))
                  refine own_aload X508 hx 386 rfl (hb hby at_384) rfl rfl ?_
                  refine own_aload X508 hx 388 rfl (hb hby at_386) rfl rfl ?_
                  refine own_iload X508 hx 390 rfl (hb hby at_388) rfl ?_
                  refine own_ldZ X508 hx hZ rfl f517 ⟨by decide, by decide⟩ f1 (congrArg Value.int (own_nar hf1)) 391 rfl (hb hby at_390) ?_
                  refine own_aload X508 hx 393 rfl (hb hby at_391) rfl rfl ?_
                  refine own_iload X508 hx 395 rfl (hb hby at_393) rfl ?_
                  refine own_ldD X508 hx hZ rfl f515 ⟨by decide, by decide⟩ (own_x1 i1 i3) rfl 396 rfl (hb hby at_395) ?_
                  refine own_callS X508 hx hZ (y := (⟨"com/example/outpost/outpost/service/split/ExactSumRoundedPinLaw", "addIf", "(Lcom/example/outpost/outpost/service/split/ExactSum;ZD)V"⟩ : MethodName)) hown (own_hw hw 15 rfl) (own_hw hw 16 rfl) (by decide) (rm_if1 l Z a0 hw [] b477 f1 (own_x1 i1 i3) a489 k489 c508 r0508 r1508 r2508 (0 : UInt64) ((0 : Int) + (own_t f0 (own_x0 i0 i3))) T508.heap n0 z522 f509 f510 f511 f512 ge480 ge498 ne497 (own_x1_f i1 i3) (own_x1_b i1 i3) P508 (own_bt1 (own_tb f0 (own_x0_b i0 i3)))) (own_hw hw 18 rfl) (own_hw hw 17 rfl) (by decide) rfl (by rw [hml]; rfl) [(.ref b477), (.int f1), (.double (own_x1 i1 i3))] 0 (by decide) (Nat.le_of_eq rfl) (by decide) (by decide) (lenOf own_pd4 rfl) rfl rfl 399 rfl (hb hby at_396) fun v523 T523 Lc523 X523 hQ523 => ?_
                  obtain ⟨rfl, Nq523, Kq523, c523, r0523, r1523, r2523, f524, f525, f526, f527, P523⟩ := hQ523
                  have N528 := Fr.app N513 Nq523
                  have f529 := f514.keep Kq523
                  have f530 := f515.keep Kq523 (ninS ne478 (ninS ne495 nin0))
                  have f531 := f516.keep Kq523
                  have f532 := f517.keep Kq523 (ninS ne479 (ninS ne496 nin0))
                  have f533 := f509.keep Kq523
                  have z537 := Nat.le_trans z522 Kq523.1
                  show own_Go _ _ _ _ _ (State.setTop _ (mkF _ 399 _ []))
                  refine own_aload X523 hx 401 rfl (hb hby at_399) rfl rfl ?_
                  refine own_aload X523 hx 403 rfl (hb hby at_401) rfl rfl ?_
                  refine own_iload X523 hx 405 rfl (hb hby at_403) rfl ?_
                  refine own_ldZ X523 hx hZ rfl f532 ⟨by decide, by decide⟩ f2 (congrArg Value.int (own_nar hf2)) 406 rfl (hb hby at_405) ?_
                  refine own_aload X523 hx 408 rfl (hb hby at_406) rfl rfl ?_
                  refine own_iload X523 hx 410 rfl (hb hby at_408) rfl ?_
                  refine own_ldD X523 hx hZ rfl f530 ⟨by decide, by decide⟩ (own_x2 i2 i3) rfl 411 rfl (hb hby at_410) ?_
                  refine own_callS X523 hx hZ (y := (⟨"com/example/outpost/outpost/service/split/ExactSumRoundedPinLaw", "addIf", "(Lcom/example/outpost/outpost/service/split/ExactSum;ZD)V"⟩ : MethodName)) hown (own_hw hw 15 rfl) (own_hw hw 16 rfl) (by decide) (rm_if2 l Z a0 hw [] b477 f2 (own_x2 i2 i3) a489 k489 c523 r0523 r1523 r2523 (0 : UInt64) (((0 : Int) + (own_t f0 (own_x0 i0 i3))) + (own_t f1 (own_x1 i1 i3))) T523.heap n0 z537 f524 f525 f526 f527 ge480 ge498 ne497 (own_x2_f i2 i3) (own_x2_b i2 i3) P523 (own_bt2 (own_tb f0 (own_x0_b i0 i3)) (own_tb f1 (own_x1_b i1 i3)))) (own_hw hw 18 rfl) (own_hw hw 17 rfl) (by decide) rfl (by rw [hml]; rfl) [(.ref b477), (.int f2), (.double (own_x2 i2 i3))] 0 (by decide) (Nat.le_of_eq rfl) (by decide) (by decide) (lenOf own_pd4 rfl) rfl rfl 414 rfl (hb hby at_411) fun v538 T538 Lc538 X538 hQ538 => ?_
                  obtain ⟨rfl, Nq538, Kq538, c538, r0538, r1538, r2538, f539, f540, f541, f542, P538⟩ := hQ538
                  have N543 := Fr.app N528 Nq538
                  have f544 := f529.keep Kq538
                  have f545 := f530.keep Kq538 (ninS ne478 (ninS ne495 nin0))
                  have f546 := f531.keep Kq538
                  have f547 := f532.keep Kq538 (ninS ne479 (ninS ne496 nin0))
                  have f548 := f524.keep Kq538
                  have z552 := Nat.le_trans z537 Kq538.1
                  show own_Go _ _ _ _ _ (State.setTop _ (mkF _ 414 _ []))
                  refine own_aload X538 hx 416 rfl (hb hby at_414) rfl rfl ?_
                  refine own_virtual X538 hx hZ (y := (⟨"com/example/outpost/outpost/service/split/ExactSum", "rounded", "()D"⟩ : MethodName)) (z := (⟨"com/example/outpost/outpost/service/split/ExactSum", "rounded", "()D"⟩ : MethodName)) hown (own_hw hw 19 rfl) (own_hw hw 20 rfl) (own_hw hw 22 rfl) (own_hw hw 21 rfl) rfl (a := b477) f539 (by decide) (rm_rounded l Z a0 hw [] b477 a489 k489 c538 r0538 r1538 r2538 (0 : UInt64) ((((0 : Int) + (own_t f0 (own_x0 i0 i3))) + (own_t f1 (own_x1 i1 i3))) + (own_t f2 (own_x2 i2 i3))) T538.heap n0 z552 f540 f541 f542 P538) (own_hw hw 23 rfl) (own_hw hw 4 rfl) (by decide) rfl (by rw [hml]; rfl) [] 0 (by decide) (Nat.le_of_eq rfl) (by decide) (by decide) (lenOf own_pd5 rfl) rfl rfl 419 rfl (hb hby at_416) fun v553 T553 Lc553 X553 hQ553 => ?_
                  obtain ⟨d553, rfl, Nq553, e553, fd553, zd553⟩ := hQ553
                  have N554 := Fr.app N543 Nq553
                  show own_Go _ _ _ _ _ (State.setTop _ (mkF _ 419 _ [(.double d553)]))
                  refine own_dload X553 hx 421 rfl (hb hby at_419) rfl ?_
                  refine own_dcmp X553 hx 422 rfl (hb hby at_421) (0 : Int32) (own_end fd553 zd553 hE hA hB hc.2.1 (own_p0 _ _ _)) ?_
                  refine own_ifNo X553 hx 425 rfl (hb hby at_422) (by decide) ?_
                  refine own_iconst X553 hx 426 rfl (hb hby at_425) (1 : Int32) rfl ?_
                  refine own_goto X553 hx 430 (hb hby at_426) (by decide) rfl ?_
                  refine own_ret X553 (some (.int (1 : Int32))) (fun h => by rw [Bd.returns] at h; cases h) Bd.notSynchronized (by decide) (by decide) ?_ (fun fs hr => retN X553 hx (t := .boolean) Bd.returns (by simp) (hb hby at_430) hr)
                  show Q_rm0 Z i0 i1 i2 i3 i4 h0 n0 _ T553.heap _
                  rw [e553]
                  exact ⟨rfl, N554⟩
                ·
                  refine own_ifYes X469 hx 279 (hb hby at_264) ((if0 _ _).trans (feq hc476).2) (by decide) rfl ?_
                  refine own_iload X469 hx 281 rfl (hb hby at_279) rfl ?_
                  refine own_iconst X469 hx 282 rfl (hb hby at_281) (1 : Int32) rfl ?_
                  by_cases hc555 : own_pm i4 = (1 : Int32)
                  ·
                    refine own_icmpNo X469 hx 285 rfl (hb hby at_282) (teq hc555).2 ?_
                    refine own_iconst X469 hx 286 rfl (hb hby at_285) (0 : Int32) rfl ?_
                    refine own_istore X469 hx 288 rfl (hb hby at_286) #[.val (.int i0), .val (.int i1), .val (.int i2), .val (.int i3), .val (.int i4), .val (.int (own_sa i3)), .val (.int (own_sb i3)), .val (.int (own_tt i3)), .val (.int f0), .val (.int f1), .val (.int f2), .val (.int (own_pm i4)), .val (.long (own_A i0 (own_sa i3))), .second, .val (.long (own_A i1 (own_sb i3))), .second, .val (.double (own_x0 i0 i3)), .second, .val (.double (own_x1 i1 i3)), .second, .val (.double (own_x2 i2 i3)), .second, .val (.long (a1 + b1)), .second, .val (.double c1), .second, .val (.double (FP.dadd (FP.l2d (a1 + b1)) c1)), .second, .val (.ref b429), .val (.ref b448), .val (.int (0 : Int32)), .unset, .unset, .unset] rfl ?_
                    refine own_iconst X469 hx 289 rfl (hb hby at_288) (2 : Int32) rfl ?_
                    refine own_istore X469 hx 291 rfl (hb hby at_289) #[.val (.int i0), .val (.int i1), .val (.int i2), .val (.int i3), .val (.int i4), .val (.int (own_sa i3)), .val (.int (own_sb i3)), .val (.int (own_tt i3)), .val (.int f0), .val (.int f1), .val (.int f2), .val (.int (own_pm i4)), .val (.long (own_A i0 (own_sa i3))), .second, .val (.long (own_A i1 (own_sb i3))), .second, .val (.double (own_x0 i0 i3)), .second, .val (.double (own_x1 i1 i3)), .second, .val (.double (own_x2 i2 i3)), .second, .val (.long (a1 + b1)), .second, .val (.double c1), .second, .val (.double (FP.dadd (FP.l2d (a1 + b1)) c1)), .second, .val (.ref b429), .val (.ref b448), .val (.int (0 : Int32)), .val (.int (2 : Int32)), .unset, .unset] rfl ?_
                    refine own_iconst X469 hx 292 rfl (hb hby at_291) (1 : Int32) rfl ?_
                    refine own_istore X469 hx 294 rfl (hb hby at_292) #[.val (.int i0), .val (.int i1), .val (.int i2), .val (.int i3), .val (.int i4), .val (.int (own_sa i3)), .val (.int (own_sb i3)), .val (.int (own_tt i3)), .val (.int f0), .val (.int f1), .val (.int f2), .val (.int (own_pm i4)), .val (.long (own_A i0 (own_sa i3))), .second, .val (.long (own_A i1 (own_sb i3))), .second, .val (.double (own_x0 i0 i3)), .second, .val (.double (own_x1 i1 i3)), .second, .val (.double (own_x2 i2 i3)), .second, .val (.long (a1 + b1)), .second, .val (.double c1), .second, .val (.double (FP.dadd (FP.l2d (a1 + b1)) c1)), .second, .val (.ref b429), .val (.ref b448), .val (.int (0 : Int32)), .val (.int (2 : Int32)), .val (.int (1 : Int32)), .unset] rfl ?_
                    refine own_goto X469 hx 360 (hb hby at_294) (by decide) rfl ?_
                    refine own_new X469 hx hZ hown (own_hw hw 2 rfl) (own_hw hw 3 rfl) (own_hw hw 4 rfl) e469 363 rfl (hb hby at_360) (by decide) (by decide) fun T556 h556 b556 g556 X556 e556 E556 A556 D556 => ?_
                    have ne557 : b429 ≠ b556 := Nat.ne_of_lt (Nat.lt_of_lt_of_le f471.lt (Nat.le_of_eq g556.symm))
                    have ne558 : b448 ≠ b556 := Nat.ne_of_lt (Nat.lt_of_lt_of_le f473.lt (Nat.le_of_eq g556.symm))
                    have ge559 : n0 ≤ b556 := Nat.le_trans z474 (Nat.le_of_eq g556.symm)
                    have f560 := f471.ext E556
                    have f561 := f472.ext E556
                    have f562 := f473.ext E556
                    have f563 := f470.ext E556
                    have z564 := Nat.le_trans z474 E556.1
                    have f565 : Fld Z h556 b556 "com/example/outpost/outpost/service/split/ExactSum" "parts" "[D" .null := D556 (Or.inl (own_hw hw 12 rfl)) (ty := (.array .double)) (by decide)
                    have f566 : Fld Z h556 b556 "com/example/outpost/outpost/service/split/ExactSum" "scratch" "[D" .null := D556 (Or.inl (own_hw hw 14 rfl)) (ty := (.array .double)) (by decide)
                    have f567 : Fld Z h556 b556 "com/example/outpost/outpost/service/split/ExactSum" "count" "I" (.int (0 : Int32)) := D556 (Or.inl (own_hw hw 25 rfl)) (ty := .int) (by decide)
                    refine own_dup X556 hx 364 rfl (hb hby at_363) rfl ?_
                    refine own_special X556 hx hZ (y := (⟨"com/example/outpost/outpost/service/split/ExactSum", "<init>", "()V"⟩ : MethodName)) hown rfl (own_hw hw 5 rfl) (own_hw hw 6 rfl) (a := b556) (by decide) rfl (rm_init l Z a0 hw [] b556 h556 n0 z564 A556 f565 f567 f566 ge559) (own_hw hw 7 rfl) (own_hw hw 4 rfl) (by decide) e556 (by rw [hml]; rfl) [] 1 (by decide) (Nat.le_of_eq rfl) (by decide) (by decide) (lenOf own_pd3 rfl) rfl rfl 367 rfl (hb hby at_364) fun v568 T568 Lc568 X568 hQ568 => ?_
                    obtain ⟨rfl, Nq568, Kq568, a568, k568, sz568, f569, f570, f571, f572⟩ := hQ568
                    have N573 := Fr.app N475 Nq568
                    have ne574 : b429 ≠ a568 := Nat.ne_of_lt (Nat.lt_of_lt_of_le f560.lt sz568)
                    have ne575 : b448 ≠ a568 := Nat.ne_of_lt (Nat.lt_of_lt_of_le f562.lt sz568)
                    have ne576 : b556 ≠ a568 := Nat.ne_of_lt (Nat.lt_of_lt_of_le A556.lt sz568)
                    have ge577 : n0 ≤ a568 := Nat.le_trans z564 sz568
                    have f578 := f560.keep Kq568
                    have f579 := f561.keep Kq568 (ninS ne557 nin0)
                    have f580 := f562.keep Kq568
                    have f581 := f563.keep Kq568 (ninS ne558 nin0)
                    have f582 := A556.keep Kq568
                    have z586 := Nat.le_trans z564 Kq568.1
                    show own_Go _ _ _ _ _ (State.setTop _ (mkF _ 367 _ [(.ref b556)]))
                    refine own_astore X568 hx 369 rfl (hb hby at_367) rfl #[.val (.int i0), .val (.int i1), .val (.int i2), .val (.int i3), .val (.int i4), .val (.int (own_sa i3)), .val (.int (own_sb i3)), .val (.int (own_tt i3)), .val (.int f0), .val (.int f1), .val (.int f2), .val (.int (own_pm i4)), .val (.long (own_A i0 (own_sa i3))), .second, .val (.long (own_A i1 (own_sb i3))), .second, .val (.double (own_x0 i0 i3)), .second, .val (.double (own_x1 i1 i3)), .second, .val (.double (own_x2 i2 i3)), .second, .val (.long (a1 + b1)), .second, .val (.double c1), .second, .val (.double (FP.dadd (FP.l2d (a1 + b1)) c1)), .second, .val (.ref b429), .val (.ref b448), .val (.int (0 : Int32)), .val (.int (2 : Int32)), .val (.int (1 : Int32)), .val (.ref b556)] rfl ?_
                    refine own_aload X568 hx 371 rfl (hb hby at_369) rfl rfl ?_
                    refine own_aload X568 hx 373 rfl (hb hby at_371) rfl rfl ?_
                    refine own_iload X568 hx 375 rfl (hb hby at_373) rfl ?_
                    refine own_ldZ X568 hx hZ rfl f581 ⟨by decide, by decide⟩ f0 (congrArg Value.int (own_nar hf0)) 376 rfl (hb hby at_375) ?_
                    refine own_aload X568 hx 378 rfl (hb hby at_376) rfl rfl ?_
                    refine own_iload X568 hx 380 rfl (hb hby at_378) rfl ?_
                    refine own_ldD X568 hx hZ rfl f579 ⟨by decide, by decide⟩ (own_x0 i0 i3) rfl 381 rfl (hb hby at_380) ?_
                    refine own_callS X568 hx hZ (y := (⟨"com/example/outpost/outpost/service/split/ExactSumRoundedPinLaw", "addIf", "(Lcom/example/outpost/outpost/service/split/ExactSum;ZD)V"⟩ : MethodName)) hown (own_hw hw 15 rfl) (own_hw hw 16 rfl) (by decide) (rm_if0 l Z a0 hw [] b556 f0 (own_x0 i0 i3) a568 k568 (0 : Int32) (0 : UInt64) (0 : UInt64) (0 : UInt64) (0 : UInt64) (0 : Int) T568.heap n0 z586 f569 f570 f571 f572 ge559 ge577 ne576 (own_x0_f i0 i3) (own_x0_b i0 i3) ⟨rfl, rfl⟩ own_bt0) (own_hw hw 18 rfl) (own_hw hw 17 rfl) (by decide) rfl (by rw [hml]; rfl) [(.ref b556), (.int f0), (.double (own_x0 i0 i3))] 0 (by decide) (Nat.le_of_eq rfl) (by decide) (by decide) (lenOf own_pd4 rfl) rfl rfl 384 rfl (hb hby at_381) fun v587 T587 Lc587 X587 hQ587 => ?_
                    obtain ⟨rfl, Nq587, Kq587, c587, r0587, r1587, r2587, f588, f589, f590, f591, P587⟩ := hQ587
                    have N592 := Fr.app N573 Nq587
                    have f593 := f578.keep Kq587
                    have f594 := f579.keep Kq587 (ninS ne557 (ninS ne574 nin0))
                    have f595 := f580.keep Kq587
                    have f596 := f581.keep Kq587 (ninS ne558 (ninS ne575 nin0))
                    have f597 := f569.keep Kq587
                    have z601 := Nat.le_trans z586 Kq587.1
                    show own_Go _ _ _ _ _ (State.setTop _ (mkF _ 384 _ []))
                    refine own_aload X587 hx 386 rfl (hb hby at_384) rfl rfl ?_
                    refine own_aload X587 hx 388 rfl (hb hby at_386) rfl rfl ?_
                    refine own_iload X587 hx 390 rfl (hb hby at_388) rfl ?_
                    refine own_ldZ X587 hx hZ rfl f596 ⟨by decide, by decide⟩ f2 (congrArg Value.int (own_nar hf2)) 391 rfl (hb hby at_390) ?_
                    refine own_aload X587 hx 393 rfl (hb hby at_391) rfl rfl ?_
                    refine own_iload X587 hx 395 rfl (hb hby at_393) rfl ?_
                    refine own_ldD X587 hx hZ rfl f594 ⟨by decide, by decide⟩ (own_x2 i2 i3) rfl 396 rfl (hb hby at_395) ?_
                    refine own_callS X587 hx hZ (y := (⟨"com/example/outpost/outpost/service/split/ExactSumRoundedPinLaw", "addIf", "(Lcom/example/outpost/outpost/service/split/ExactSum;ZD)V"⟩ : MethodName)) hown (own_hw hw 15 rfl) (own_hw hw 16 rfl) (by decide) (rm_if1 l Z a0 hw [] b556 f2 (own_x2 i2 i3) a568 k568 c587 r0587 r1587 r2587 (0 : UInt64) ((0 : Int) + (own_t f0 (own_x0 i0 i3))) T587.heap n0 z601 f588 f589 f590 f591 ge559 ge577 ne576 (own_x2_f i2 i3) (own_x2_b i2 i3) P587 (own_bt1 (own_tb f0 (own_x0_b i0 i3)))) (own_hw hw 18 rfl) (own_hw hw 17 rfl) (by decide) rfl (by rw [hml]; rfl) [(.ref b556), (.int f2), (.double (own_x2 i2 i3))] 0 (by decide) (Nat.le_of_eq rfl) (by decide) (by decide) (lenOf own_pd4 rfl) rfl rfl 399 rfl (hb hby at_396) fun v602 T602 Lc602 X602 hQ602 => ?_
                    obtain ⟨rfl, Nq602, Kq602, c602, r0602, r1602, r2602, f603, f604, f605, f606, P602⟩ := hQ602
                    have N607 := Fr.app N592 Nq602
                    have f608 := f593.keep Kq602
                    have f609 := f594.keep Kq602 (ninS ne557 (ninS ne574 nin0))
                    have f610 := f595.keep Kq602
                    have f611 := f596.keep Kq602 (ninS ne558 (ninS ne575 nin0))
                    have f612 := f588.keep Kq602
                    have z616 := Nat.le_trans z601 Kq602.1
                    show own_Go _ _ _ _ _ (State.setTop _ (mkF _ 399 _ []))
                    refine own_aload X602 hx 401 rfl (hb hby at_399) rfl rfl ?_
                    refine own_aload X602 hx 403 rfl (hb hby at_401) rfl rfl ?_
                    refine own_iload X602 hx 405 rfl (hb hby at_403) rfl ?_
                    refine own_ldZ X602 hx hZ rfl f611 ⟨by decide, by decide⟩ f1 (congrArg Value.int (own_nar hf1)) 406 rfl (hb hby at_405) ?_
                    refine own_aload X602 hx 408 rfl (hb hby at_406) rfl rfl ?_
                    refine own_iload X602 hx 410 rfl (hb hby at_408) rfl ?_
                    refine own_ldD X602 hx hZ rfl f609 ⟨by decide, by decide⟩ (own_x1 i1 i3) rfl 411 rfl (hb hby at_410) ?_
                    refine own_callS X602 hx hZ (y := (⟨"com/example/outpost/outpost/service/split/ExactSumRoundedPinLaw", "addIf", "(Lcom/example/outpost/outpost/service/split/ExactSum;ZD)V"⟩ : MethodName)) hown (own_hw hw 15 rfl) (own_hw hw 16 rfl) (by decide) (rm_if2 l Z a0 hw [] b556 f1 (own_x1 i1 i3) a568 k568 c602 r0602 r1602 r2602 (0 : UInt64) (((0 : Int) + (own_t f0 (own_x0 i0 i3))) + (own_t f2 (own_x2 i2 i3))) T602.heap n0 z616 f603 f604 f605 f606 ge559 ge577 ne576 (own_x1_f i1 i3) (own_x1_b i1 i3) P602 (own_bt2 (own_tb f0 (own_x0_b i0 i3)) (own_tb f2 (own_x2_b i2 i3)))) (own_hw hw 18 rfl) (own_hw hw 17 rfl) (by decide) rfl (by rw [hml]; rfl) [(.ref b556), (.int f1), (.double (own_x1 i1 i3))] 0 (by decide) (Nat.le_of_eq rfl) (by decide) (by decide) (lenOf own_pd4 rfl) rfl rfl 414 rfl (hb hby at_411) fun v617 T617 Lc617 X617 hQ617 => ?_
                    obtain ⟨rfl, Nq617, Kq617, c617, r0617, r1617, r2617, f618, f619, f620, f621, P617⟩ := hQ617
                    have N622 := Fr.app N607 Nq617
                    have f623 := f608.keep Kq617
                    have f624 := f609.keep Kq617 (ninS ne557 (ninS ne574 nin0))
                    have f625 := f610.keep Kq617
                    have f626 := f611.keep Kq617 (ninS ne558 (ninS ne575 nin0))
                    have f627 := f603.keep Kq617
                    have z631 := Nat.le_trans z616 Kq617.1
                    show own_Go _ _ _ _ _ (State.setTop _ (mkF _ 414 _ []))
                    refine own_aload X617 hx 416 rfl (hb hby at_414) rfl rfl ?_
                    refine own_virtual X617 hx hZ (y := (⟨"com/example/outpost/outpost/service/split/ExactSum", "rounded", "()D"⟩ : MethodName)) (z := (⟨"com/example/outpost/outpost/service/split/ExactSum", "rounded", "()D"⟩ : MethodName)) hown (own_hw hw 19 rfl) (own_hw hw 20 rfl) (own_hw hw 22 rfl) (own_hw hw 21 rfl) rfl (a := b556) f618 (by decide) (rm_rounded l Z a0 hw [] b556 a568 k568 c617 r0617 r1617 r2617 (0 : UInt64) ((((0 : Int) + (own_t f0 (own_x0 i0 i3))) + (own_t f2 (own_x2 i2 i3))) + (own_t f1 (own_x1 i1 i3))) T617.heap n0 z631 f619 f620 f621 P617) (own_hw hw 23 rfl) (own_hw hw 4 rfl) (by decide) rfl (by rw [hml]; rfl) [] 0 (by decide) (Nat.le_of_eq rfl) (by decide) (by decide) (lenOf own_pd5 rfl) rfl rfl 419 rfl (hb hby at_416) fun v632 T632 Lc632 X632 hQ632 => ?_
                    obtain ⟨d632, rfl, Nq632, e632, fd632, zd632⟩ := hQ632
                    have N633 := Fr.app N622 Nq632
                    show own_Go _ _ _ _ _ (State.setTop _ (mkF _ 419 _ [(.double d632)]))
                    refine own_dload X632 hx 421 rfl (hb hby at_419) rfl ?_
                    refine own_dcmp X632 hx 422 rfl (hb hby at_421) (0 : Int32) (own_end fd632 zd632 hE hA hB hc.2.1 (own_p1 _ _ _)) ?_
                    refine own_ifNo X632 hx 425 rfl (hb hby at_422) (by decide) ?_
                    refine own_iconst X632 hx 426 rfl (hb hby at_425) (1 : Int32) rfl ?_
                    refine own_goto X632 hx 430 (hb hby at_426) (by decide) rfl ?_
                    refine own_ret X632 (some (.int (1 : Int32))) (fun h => by rw [Bd.returns] at h; cases h) Bd.notSynchronized (by decide) (by decide) ?_ (fun fs hr => retN X632 hx (t := .boolean) Bd.returns (by simp) (hb hby at_430) hr)
                    show Q_rm0 Z i0 i1 i2 i3 i4 h0 n0 _ T632.heap _
                    rw [e632]
                    exact ⟨rfl, N633⟩
                  ·
                    refine own_icmpYes X469 hx 297 (hb hby at_282) (feq hc555).2 (by decide) rfl ?_
                    refine own_iload X469 hx 299 rfl (hb hby at_297) rfl ?_
                    refine own_iconst X469 hx 300 rfl (hb hby at_299) (2 : Int32) rfl ?_
                    by_cases hc634 : own_pm i4 = (2 : Int32)
                    ·
                      refine own_icmpNo X469 hx 303 rfl (hb hby at_300) (teq hc634).2 ?_
                      refine own_iconst X469 hx 304 rfl (hb hby at_303) (1 : Int32) rfl ?_
                      refine own_istore X469 hx 306 rfl (hb hby at_304) #[.val (.int i0), .val (.int i1), .val (.int i2), .val (.int i3), .val (.int i4), .val (.int (own_sa i3)), .val (.int (own_sb i3)), .val (.int (own_tt i3)), .val (.int f0), .val (.int f1), .val (.int f2), .val (.int (own_pm i4)), .val (.long (own_A i0 (own_sa i3))), .second, .val (.long (own_A i1 (own_sb i3))), .second, .val (.double (own_x0 i0 i3)), .second, .val (.double (own_x1 i1 i3)), .second, .val (.double (own_x2 i2 i3)), .second, .val (.long (a1 + b1)), .second, .val (.double c1), .second, .val (.double (FP.dadd (FP.l2d (a1 + b1)) c1)), .second, .val (.ref b429), .val (.ref b448), .val (.int (1 : Int32)), .unset, .unset, .unset] rfl ?_
                      refine own_iconst X469 hx 307 rfl (hb hby at_306) (0 : Int32) rfl ?_
                      refine own_istore X469 hx 309 rfl (hb hby at_307) #[.val (.int i0), .val (.int i1), .val (.int i2), .val (.int i3), .val (.int i4), .val (.int (own_sa i3)), .val (.int (own_sb i3)), .val (.int (own_tt i3)), .val (.int f0), .val (.int f1), .val (.int f2), .val (.int (own_pm i4)), .val (.long (own_A i0 (own_sa i3))), .second, .val (.long (own_A i1 (own_sb i3))), .second, .val (.double (own_x0 i0 i3)), .second, .val (.double (own_x1 i1 i3)), .second, .val (.double (own_x2 i2 i3)), .second, .val (.long (a1 + b1)), .second, .val (.double c1), .second, .val (.double (FP.dadd (FP.l2d (a1 + b1)) c1)), .second, .val (.ref b429), .val (.ref b448), .val (.int (1 : Int32)), .val (.int (0 : Int32)), .unset, .unset] rfl ?_
                      refine own_iconst X469 hx 310 rfl (hb hby at_309) (2 : Int32) rfl ?_
                      refine own_istore X469 hx 312 rfl (hb hby at_310) #[.val (.int i0), .val (.int i1), .val (.int i2), .val (.int i3), .val (.int i4), .val (.int (own_sa i3)), .val (.int (own_sb i3)), .val (.int (own_tt i3)), .val (.int f0), .val (.int f1), .val (.int f2), .val (.int (own_pm i4)), .val (.long (own_A i0 (own_sa i3))), .second, .val (.long (own_A i1 (own_sb i3))), .second, .val (.double (own_x0 i0 i3)), .second, .val (.double (own_x1 i1 i3)), .second, .val (.double (own_x2 i2 i3)), .second, .val (.long (a1 + b1)), .second, .val (.double c1), .second, .val (.double (FP.dadd (FP.l2d (a1 + b1)) c1)), .second, .val (.ref b429), .val (.ref b448), .val (.int (1 : Int32)), .val (.int (0 : Int32)), .val (.int (2 : Int32)), .unset] rfl ?_
                      refine own_goto X469 hx 360 (hb hby at_312) (by decide) rfl ?_
                      refine own_new X469 hx hZ hown (own_hw hw 2 rfl) (own_hw hw 3 rfl) (own_hw hw 4 rfl) e469 363 rfl (hb hby at_360) (by decide) (by decide) fun T635 h635 b635 g635 X635 e635 E635 A635 D635 => ?_
                      have ne636 : b429 ≠ b635 := Nat.ne_of_lt (Nat.lt_of_lt_of_le f471.lt (Nat.le_of_eq g635.symm))
                      have ne637 : b448 ≠ b635 := Nat.ne_of_lt (Nat.lt_of_lt_of_le f473.lt (Nat.le_of_eq g635.symm))
                      have ge638 : n0 ≤ b635 := Nat.le_trans z474 (Nat.le_of_eq g635.symm)
                      have f639 := f471.ext E635
                      have f640 := f472.ext E635
                      have f641 := f473.ext E635
                      have f642 := f470.ext E635
                      have z643 := Nat.le_trans z474 E635.1
                      have f644 : Fld Z h635 b635 "com/example/outpost/outpost/service/split/ExactSum" "parts" "[D" .null := D635 (Or.inl (own_hw hw 12 rfl)) (ty := (.array .double)) (by decide)
                      have f645 : Fld Z h635 b635 "com/example/outpost/outpost/service/split/ExactSum" "scratch" "[D" .null := D635 (Or.inl (own_hw hw 14 rfl)) (ty := (.array .double)) (by decide)
                      have f646 : Fld Z h635 b635 "com/example/outpost/outpost/service/split/ExactSum" "count" "I" (.int (0 : Int32)) := D635 (Or.inl (own_hw hw 25 rfl)) (ty := .int) (by decide)
                      refine own_dup X635 hx 364 rfl (hb hby at_363) rfl ?_
                      refine own_special X635 hx hZ (y := (⟨"com/example/outpost/outpost/service/split/ExactSum", "<init>", "()V"⟩ : MethodName)) hown rfl (own_hw hw 5 rfl) (own_hw hw 6 rfl) (a := b635) (by decide) rfl (rm_init l Z a0 hw [] b635 h635 n0 z643 A635 f644 f646 f645 ge638) (own_hw hw 7 rfl) (own_hw hw 4 rfl) (by decide) e635 (by rw [hml]; rfl) [] 1 (by decide) (Nat.le_of_eq rfl) (by decide) (by decide) (lenOf own_pd3 rfl) rfl rfl 367 rfl (hb hby at_364) fun v647 T647 Lc647 X647 hQ647 => ?_
                      obtain ⟨rfl, Nq647, Kq647, a647, k647, sz647, f648, f649, f650, f651⟩ := hQ647
                      have N652 := Fr.app N475 Nq647
                      have ne653 : b429 ≠ a647 := Nat.ne_of_lt (Nat.lt_of_lt_of_le f639.lt sz647)
                      have ne654 : b448 ≠ a647 := Nat.ne_of_lt (Nat.lt_of_lt_of_le f641.lt sz647)
                      have ne655 : b635 ≠ a647 := Nat.ne_of_lt (Nat.lt_of_lt_of_le A635.lt sz647)
                      have ge656 : n0 ≤ a647 := Nat.le_trans z643 sz647
                      have f657 := f639.keep Kq647
                      have f658 := f640.keep Kq647 (ninS ne636 nin0)
                      have f659 := f641.keep Kq647
                      have f660 := f642.keep Kq647 (ninS ne637 nin0)
                      have f661 := A635.keep Kq647
                      have z665 := Nat.le_trans z643 Kq647.1
                      show own_Go _ _ _ _ _ (State.setTop _ (mkF _ 367 _ [(.ref b635)]))
                      refine own_astore X647 hx 369 rfl (hb hby at_367) rfl #[.val (.int i0), .val (.int i1), .val (.int i2), .val (.int i3), .val (.int i4), .val (.int (own_sa i3)), .val (.int (own_sb i3)), .val (.int (own_tt i3)), .val (.int f0), .val (.int f1), .val (.int f2), .val (.int (own_pm i4)), .val (.long (own_A i0 (own_sa i3))), .second, .val (.long (own_A i1 (own_sb i3))), .second, .val (.double (own_x0 i0 i3)), .second, .val (.double (own_x1 i1 i3)), .second, .val (.double (own_x2 i2 i3)), .second, .val (.long (a1 + b1)), .second, .val (.double c1), .second, .val (.double (FP.dadd (FP.l2d (a1 + b1)) c1)), .second, .val (.ref b429), .val (.ref b448), .val (.int (1 : Int32)), .val (.int (0 : Int32)), .val (.int (2 : Int32)), .val (.ref b635)] rfl ?_
                      refine own_aload X647 hx 371 rfl (hb hby at_369) rfl rfl ?_
                      refine own_aload X647 hx 373 rfl (hb hby at_371) rfl rfl ?_
                      refine own_iload X647 hx 375 rfl (hb hby at_373) rfl ?_
                      refine own_ldZ X647 hx hZ rfl f660 ⟨by decide, by decide⟩ f1 (congrArg Value.int (own_nar hf1)) 376 rfl (hb hby at_375) ?_
                      refine own_aload X647 hx 378 rfl (hb hby at_376) rfl rfl ?_
                      refine own_iload X647 hx 380 rfl (hb hby at_378) rfl ?_
                      refine own_ldD X647 hx hZ rfl f658 ⟨by decide, by decide⟩ (own_x1 i1 i3) rfl 381 rfl (hb hby at_380) ?_
                      refine own_callS X647 hx hZ (y := (⟨"com/example/outpost/outpost/service/split/ExactSumRoundedPinLaw", "addIf", "(Lcom/example/outpost/outpost/service/split/ExactSum;ZD)V"⟩ : MethodName)) hown (own_hw hw 15 rfl) (own_hw hw 16 rfl) (by decide) (rm_if0 l Z a0 hw [] b635 f1 (own_x1 i1 i3) a647 k647 (0 : Int32) (0 : UInt64) (0 : UInt64) (0 : UInt64) (0 : UInt64) (0 : Int) T647.heap n0 z665 f648 f649 f650 f651 ge638 ge656 ne655 (own_x1_f i1 i3) (own_x1_b i1 i3) ⟨rfl, rfl⟩ own_bt0) (own_hw hw 18 rfl) (own_hw hw 17 rfl) (by decide) rfl (by rw [hml]; rfl) [(.ref b635), (.int f1), (.double (own_x1 i1 i3))] 0 (by decide) (Nat.le_of_eq rfl) (by decide) (by decide) (lenOf own_pd4 rfl) rfl rfl 384 rfl (hb hby at_381) fun v666 T666 Lc666 X666 hQ666 => ?_
                      obtain ⟨rfl, Nq666, Kq666, c666, r0666, r1666, r2666, f667, f668, f669, f670, P666⟩ := hQ666
                      have N671 := Fr.app N652 Nq666
                      have f672 := f657.keep Kq666
                      have f673 := f658.keep Kq666 (ninS ne636 (ninS ne653 nin0))
                      have f674 := f659.keep Kq666
                      have f675 := f660.keep Kq666 (ninS ne637 (ninS ne654 nin0))
                      have f676 := f648.keep Kq666
                      have z680 := Nat.le_trans z665 Kq666.1
                      show own_Go _ _ _ _ _ (State.setTop _ (mkF _ 384 _ []))
                      refine own_aload X666 hx 386 rfl (hb hby at_384) rfl rfl ?_
                      refine own_aload X666 hx 388 rfl (hb hby at_386) rfl rfl ?_
                      refine own_iload X666 hx 390 rfl (hb hby at_388) rfl ?_
                      refine own_ldZ X666 hx hZ rfl f675 ⟨by decide, by decide⟩ f0 (congrArg Value.int (own_nar hf0)) 391 rfl (hb hby at_390) ?_
                      refine own_aload X666 hx 393 rfl (hb hby at_391) rfl rfl ?_
                      refine own_iload X666 hx 395 rfl (hb hby at_393) rfl ?_
                      refine own_ldD X666 hx hZ rfl f673 ⟨by decide, by decide⟩ (own_x0 i0 i3) rfl 396 rfl (hb hby at_395) ?_
                      refine own_callS X666 hx hZ (y := (⟨"com/example/outpost/outpost/service/split/ExactSumRoundedPinLaw", "addIf", "(Lcom/example/outpost/outpost/service/split/ExactSum;ZD)V"⟩ : MethodName)) hown (own_hw hw 15 rfl) (own_hw hw 16 rfl) (by decide) (rm_if1 l Z a0 hw [] b635 f0 (own_x0 i0 i3) a647 k647 c666 r0666 r1666 r2666 (0 : UInt64) ((0 : Int) + (own_t f1 (own_x1 i1 i3))) T666.heap n0 z680 f667 f668 f669 f670 ge638 ge656 ne655 (own_x0_f i0 i3) (own_x0_b i0 i3) P666 (own_bt1 (own_tb f1 (own_x1_b i1 i3)))) (own_hw hw 18 rfl) (own_hw hw 17 rfl) (by decide) rfl (by rw [hml]; rfl) [(.ref b635), (.int f0), (.double (own_x0 i0 i3))] 0 (by decide) (Nat.le_of_eq rfl) (by decide) (by decide) (lenOf own_pd4 rfl) rfl rfl 399 rfl (hb hby at_396) fun v681 T681 Lc681 X681 hQ681 => ?_
                      obtain ⟨rfl, Nq681, Kq681, c681, r0681, r1681, r2681, f682, f683, f684, f685, P681⟩ := hQ681
                      have N686 := Fr.app N671 Nq681
                      have f687 := f672.keep Kq681
                      have f688 := f673.keep Kq681 (ninS ne636 (ninS ne653 nin0))
                      have f689 := f674.keep Kq681
                      have f690 := f675.keep Kq681 (ninS ne637 (ninS ne654 nin0))
                      have f691 := f667.keep Kq681
                      have z695 := Nat.le_trans z680 Kq681.1
                      show own_Go _ _ _ _ _ (State.setTop _ (mkF _ 399 _ []))
                      refine own_aload X681 hx 401 rfl (hb hby at_399) rfl rfl ?_
                      refine own_aload X681 hx 403 rfl (hb hby at_401) rfl rfl ?_
                      refine own_iload X681 hx 405 rfl (hb hby at_403) rfl ?_
                      refine own_ldZ X681 hx hZ rfl f690 ⟨by decide, by decide⟩ f2 (congrArg Value.int (own_nar hf2)) 406 rfl (hb hby at_405) ?_
                      refine own_aload X681 hx 408 rfl (hb hby at_406) rfl rfl ?_
                      refine own_iload X681 hx 410 rfl (hb hby at_408) rfl ?_
                      refine own_ldD X681 hx hZ rfl f688 ⟨by decide, by decide⟩ (own_x2 i2 i3) rfl 411 rfl (hb hby at_410) ?_
                      refine own_callS X681 hx hZ (y := (⟨"com/example/outpost/outpost/service/split/ExactSumRoundedPinLaw", "addIf", "(Lcom/example/outpost/outpost/service/split/ExactSum;ZD)V"⟩ : MethodName)) hown (own_hw hw 15 rfl) (own_hw hw 16 rfl) (by decide) (rm_if2 l Z a0 hw [] b635 f2 (own_x2 i2 i3) a647 k647 c681 r0681 r1681 r2681 (0 : UInt64) (((0 : Int) + (own_t f1 (own_x1 i1 i3))) + (own_t f0 (own_x0 i0 i3))) T681.heap n0 z695 f682 f683 f684 f685 ge638 ge656 ne655 (own_x2_f i2 i3) (own_x2_b i2 i3) P681 (own_bt2 (own_tb f1 (own_x1_b i1 i3)) (own_tb f0 (own_x0_b i0 i3)))) (own_hw hw 18 rfl) (own_hw hw 17 rfl) (by decide) rfl (by rw [hml]; rfl) [(.ref b635), (.int f2), (.double (own_x2 i2 i3))] 0 (by decide) (Nat.le_of_eq rfl) (by decide) (by decide) (lenOf own_pd4 rfl) rfl rfl 414 rfl (hb hby at_411) fun v696 T696 Lc696 X696 hQ696 => ?_
                      obtain ⟨rfl, Nq696, Kq696, c696, r0696, r1696, r2696, f697, f698, f699, f700, P696⟩ := hQ696
                      have N701 := Fr.app N686 Nq696
                      have f702 := f687.keep Kq696
                      have f703 := f688.keep Kq696 (ninS ne636 (ninS ne653 nin0))
                      have f704 := f689.keep Kq696
                      have f705 := f690.keep Kq696 (ninS ne637 (ninS ne654 nin0))
                      have f706 := f682.keep Kq696
                      have z710 := Nat.le_trans z695 Kq696.1
                      show own_Go _ _ _ _ _ (State.setTop _ (mkF _ 414 _ []))
                      refine own_aload X696 hx 416 rfl (hb hby at_414) rfl rfl ?_
                      refine own_virtual X696 hx hZ (y := (⟨"com/example/outpost/outpost/service/split/ExactSum", "rounded", "()D"⟩ : MethodName)) (z := (⟨"com/example/outpost/outpost/service/split/ExactSum", "rounded", "()D"⟩ : MethodName)) hown (own_hw hw 19 rfl) (own_hw hw 20 rfl) (own_hw hw 22 rfl) (own_hw hw 21 rfl) rfl (a := b635) f697 (by decide) (rm_rounded l Z a0 hw [] b635 a647 k647 c696 r0696 r1696 r2696 (0 : UInt64) ((((0 : Int) + (own_t f1 (own_x1 i1 i3))) + (own_t f0 (own_x0 i0 i3))) + (own_t f2 (own_x2 i2 i3))) T696.heap n0 z710 f698 f699 f700 P696) (own_hw hw 23 rfl) (own_hw hw 4 rfl) (by decide) rfl (by rw [hml]; rfl) [] 0 (by decide) (Nat.le_of_eq rfl) (by decide) (by decide) (lenOf own_pd5 rfl) rfl rfl 419 rfl (hb hby at_416) fun v711 T711 Lc711 X711 hQ711 => ?_
                      obtain ⟨d711, rfl, Nq711, e711, fd711, zd711⟩ := hQ711
                      have N712 := Fr.app N701 Nq711
                      show own_Go _ _ _ _ _ (State.setTop _ (mkF _ 419 _ [(.double d711)]))
                      refine own_dload X711 hx 421 rfl (hb hby at_419) rfl ?_
                      refine own_dcmp X711 hx 422 rfl (hb hby at_421) (0 : Int32) (own_end fd711 zd711 hE hA hB hc.2.1 (own_p2 _ _ _)) ?_
                      refine own_ifNo X711 hx 425 rfl (hb hby at_422) (by decide) ?_
                      refine own_iconst X711 hx 426 rfl (hb hby at_425) (1 : Int32) rfl ?_
                      refine own_goto X711 hx 430 (hb hby at_426) (by decide) rfl ?_
                      refine own_ret X711 (some (.int (1 : Int32))) (fun h => by rw [Bd.returns] at h; cases h) Bd.notSynchronized (by decide) (by decide) ?_ (fun fs hr => retN X711 hx (t := .boolean) Bd.returns (by simp) (hb hby at_430) hr)
                      show Q_rm0 Z i0 i1 i2 i3 i4 h0 n0 _ T711.heap _
                      rw [e711]
                      exact ⟨rfl, N712⟩
                    ·
                      refine own_icmpYes X469 hx 315 (hb hby at_300) (feq hc634).2 (by decide) rfl ?_
                      refine own_iload X469 hx 317 rfl (hb hby at_315) rfl ?_
                      refine own_iconst X469 hx 318 rfl (hb hby at_317) (3 : Int32) rfl ?_
                      by_cases hc713 : own_pm i4 = (3 : Int32)
                      ·
                        refine own_icmpNo X469 hx 321 rfl (hb hby at_318) (teq hc713).2 ?_
                        refine own_iconst X469 hx 322 rfl (hb hby at_321) (1 : Int32) rfl ?_
                        refine own_istore X469 hx 324 rfl (hb hby at_322) #[.val (.int i0), .val (.int i1), .val (.int i2), .val (.int i3), .val (.int i4), .val (.int (own_sa i3)), .val (.int (own_sb i3)), .val (.int (own_tt i3)), .val (.int f0), .val (.int f1), .val (.int f2), .val (.int (own_pm i4)), .val (.long (own_A i0 (own_sa i3))), .second, .val (.long (own_A i1 (own_sb i3))), .second, .val (.double (own_x0 i0 i3)), .second, .val (.double (own_x1 i1 i3)), .second, .val (.double (own_x2 i2 i3)), .second, .val (.long (a1 + b1)), .second, .val (.double c1), .second, .val (.double (FP.dadd (FP.l2d (a1 + b1)) c1)), .second, .val (.ref b429), .val (.ref b448), .val (.int (1 : Int32)), .unset, .unset, .unset] rfl ?_
                        refine own_iconst X469 hx 325 rfl (hb hby at_324) (2 : Int32) rfl ?_
                        refine own_istore X469 hx 327 rfl (hb hby at_325) #[.val (.int i0), .val (.int i1), .val (.int i2), .val (.int i3), .val (.int i4), .val (.int (own_sa i3)), .val (.int (own_sb i3)), .val (.int (own_tt i3)), .val (.int f0), .val (.int f1), .val (.int f2), .val (.int (own_pm i4)), .val (.long (own_A i0 (own_sa i3))), .second, .val (.long (own_A i1 (own_sb i3))), .second, .val (.double (own_x0 i0 i3)), .second, .val (.double (own_x1 i1 i3)), .second, .val (.double (own_x2 i2 i3)), .second, .val (.long (a1 + b1)), .second, .val (.double c1), .second, .val (.double (FP.dadd (FP.l2d (a1 + b1)) c1)), .second, .val (.ref b429), .val (.ref b448), .val (.int (1 : Int32)), .val (.int (2 : Int32)), .unset, .unset] rfl ?_
                        refine own_iconst X469 hx 328 rfl (hb hby at_327) (0 : Int32) rfl ?_
                        refine own_istore X469 hx 330 rfl (hb hby at_328) #[.val (.int i0), .val (.int i1), .val (.int i2), .val (.int i3), .val (.int i4), .val (.int (own_sa i3)), .val (.int (own_sb i3)), .val (.int (own_tt i3)), .val (.int f0), .val (.int f1), .val (.int f2), .val (.int (own_pm i4)), .val (.long (own_A i0 (own_sa i3))), .second, .val (.long (own_A i1 (own_sb i3))), .second, .val (.double (own_x0 i0 i3)), .second, .val (.double (own_x1 i1 i3)), .second, .val (.double (own_x2 i2 i3)), .second, .val (.long (a1 + b1)), .second, .val (.double c1), .second, .val (.double (FP.dadd (FP.l2d (a1 + b1)) c1)), .second, .val (.ref b429), .val (.ref b448), .val (.int (1 : Int32)), .val (.int (2 : Int32)), .val (.int (0 : Int32)), .unset] rfl ?_
                        refine own_goto X469 hx 360 (hb hby at_330) (by decide) rfl ?_
                        refine own_new X469 hx hZ hown (own_hw hw 2 rfl) (own_hw hw 3 rfl) (own_hw hw 4 rfl) e469 363 rfl (hb hby at_360) (by decide) (by decide) fun T714 h714 b714 g714 X714 e714 E714 A714 D714 => ?_
                        have ne715 : b429 ≠ b714 := Nat.ne_of_lt (Nat.lt_of_lt_of_le f471.lt (Nat.le_of_eq g714.symm))
                        have ne716 : b448 ≠ b714 := Nat.ne_of_lt (Nat.lt_of_lt_of_le f473.lt (Nat.le_of_eq g714.symm))
                        have ge717 : n0 ≤ b714 := Nat.le_trans z474 (Nat.le_of_eq g714.symm)
                        have f718 := f471.ext E714
                        have f719 := f472.ext E714
                        have f720 := f473.ext E714
                        have f721 := f470.ext E714
                        have z722 := Nat.le_trans z474 E714.1
                        have f723 : Fld Z h714 b714 "com/example/outpost/outpost/service/split/ExactSum" "parts" "[D" .null := D714 (Or.inl (own_hw hw 12 rfl)) (ty := (.array .double)) (by decide)
                        have f724 : Fld Z h714 b714 "com/example/outpost/outpost/service/split/ExactSum" "scratch" "[D" .null := D714 (Or.inl (own_hw hw 14 rfl)) (ty := (.array .double)) (by decide)
                        have f725 : Fld Z h714 b714 "com/example/outpost/outpost/service/split/ExactSum" "count" "I" (.int (0 : Int32)) := D714 (Or.inl (own_hw hw 25 rfl)) (ty := .int) (by decide)
                        refine own_dup X714 hx 364 rfl (hb hby at_363) rfl ?_
                        refine own_special X714 hx hZ (y := (⟨"com/example/outpost/outpost/service/split/ExactSum", "<init>", "()V"⟩ : MethodName)) hown rfl (own_hw hw 5 rfl) (own_hw hw 6 rfl) (a := b714) (by decide) rfl (rm_init l Z a0 hw [] b714 h714 n0 z722 A714 f723 f725 f724 ge717) (own_hw hw 7 rfl) (own_hw hw 4 rfl) (by decide) e714 (by rw [hml]; rfl) [] 1 (by decide) (Nat.le_of_eq rfl) (by decide) (by decide) (lenOf own_pd3 rfl) rfl rfl 367 rfl (hb hby at_364) fun v726 T726 Lc726 X726 hQ726 => ?_
                        obtain ⟨rfl, Nq726, Kq726, a726, k726, sz726, f727, f728, f729, f730⟩ := hQ726
                        have N731 := Fr.app N475 Nq726
                        have ne732 : b429 ≠ a726 := Nat.ne_of_lt (Nat.lt_of_lt_of_le f718.lt sz726)
                        have ne733 : b448 ≠ a726 := Nat.ne_of_lt (Nat.lt_of_lt_of_le f720.lt sz726)
                        have ne734 : b714 ≠ a726 := Nat.ne_of_lt (Nat.lt_of_lt_of_le A714.lt sz726)
                        have ge735 : n0 ≤ a726 := Nat.le_trans z722 sz726
                        have f736 := f718.keep Kq726
                        have f737 := f719.keep Kq726 (ninS ne715 nin0)
                        have f738 := f720.keep Kq726
                        have f739 := f721.keep Kq726 (ninS ne716 nin0)
                        have f740 := A714.keep Kq726
                        have z744 := Nat.le_trans z722 Kq726.1
                        show own_Go _ _ _ _ _ (State.setTop _ (mkF _ 367 _ [(.ref b714)]))
                        refine own_astore X726 hx 369 rfl (hb hby at_367) rfl #[.val (.int i0), .val (.int i1), .val (.int i2), .val (.int i3), .val (.int i4), .val (.int (own_sa i3)), .val (.int (own_sb i3)), .val (.int (own_tt i3)), .val (.int f0), .val (.int f1), .val (.int f2), .val (.int (own_pm i4)), .val (.long (own_A i0 (own_sa i3))), .second, .val (.long (own_A i1 (own_sb i3))), .second, .val (.double (own_x0 i0 i3)), .second, .val (.double (own_x1 i1 i3)), .second, .val (.double (own_x2 i2 i3)), .second, .val (.long (a1 + b1)), .second, .val (.double c1), .second, .val (.double (FP.dadd (FP.l2d (a1 + b1)) c1)), .second, .val (.ref b429), .val (.ref b448), .val (.int (1 : Int32)), .val (.int (2 : Int32)), .val (.int (0 : Int32)), .val (.ref b714)] rfl ?_
                        refine own_aload X726 hx 371 rfl (hb hby at_369) rfl rfl ?_
                        refine own_aload X726 hx 373 rfl (hb hby at_371) rfl rfl ?_
                        refine own_iload X726 hx 375 rfl (hb hby at_373) rfl ?_
                        refine own_ldZ X726 hx hZ rfl f739 ⟨by decide, by decide⟩ f1 (congrArg Value.int (own_nar hf1)) 376 rfl (hb hby at_375) ?_
                        refine own_aload X726 hx 378 rfl (hb hby at_376) rfl rfl ?_
                        refine own_iload X726 hx 380 rfl (hb hby at_378) rfl ?_
                        refine own_ldD X726 hx hZ rfl f737 ⟨by decide, by decide⟩ (own_x1 i1 i3) rfl 381 rfl (hb hby at_380) ?_
                        refine own_callS X726 hx hZ (y := (⟨"com/example/outpost/outpost/service/split/ExactSumRoundedPinLaw", "addIf", "(Lcom/example/outpost/outpost/service/split/ExactSum;ZD)V"⟩ : MethodName)) hown (own_hw hw 15 rfl) (own_hw hw 16 rfl) (by decide) (rm_if0 l Z a0 hw [] b714 f1 (own_x1 i1 i3) a726 k726 (0 : Int32) (0 : UInt64) (0 : UInt64) (0 : UInt64) (0 : UInt64) (0 : Int) T726.heap n0 z744 f727 f728 f729 f730 ge717 ge735 ne734 (own_x1_f i1 i3) (own_x1_b i1 i3) ⟨rfl, rfl⟩ own_bt0) (own_hw hw 18 rfl) (own_hw hw 17 rfl) (by decide) rfl (by rw [hml]; rfl) [(.ref b714), (.int f1), (.double (own_x1 i1 i3))] 0 (by decide) (Nat.le_of_eq rfl) (by decide) (by decide) (lenOf own_pd4 rfl) rfl rfl 384 rfl (hb hby at_381) fun v745 T745 Lc745 X745 hQ745 => ?_
                        obtain ⟨rfl, Nq745, Kq745, c745, r0745, r1745, r2745, f746, f747, f748, f749, P745⟩ := hQ745
                        have N750 := Fr.app N731 Nq745
                        have f751 := f736.keep Kq745
                        have f752 := f737.keep Kq745 (ninS ne715 (ninS ne732 nin0))
                        have f753 := f738.keep Kq745
                        have f754 := f739.keep Kq745 (ninS ne716 (ninS ne733 nin0))
                        have f755 := f727.keep Kq745
                        have z759 := Nat.le_trans z744 Kq745.1
                        show own_Go _ _ _ _ _ (State.setTop _ (mkF _ 384 _ []))
                        refine own_aload X745 hx 386 rfl (hb hby at_384) rfl rfl ?_
                        refine own_aload X745 hx 388 rfl (hb hby at_386) rfl rfl ?_
                        refine own_iload X745 hx 390 rfl (hb hby at_388) rfl ?_
                        refine own_ldZ X745 hx hZ rfl f754 ⟨by decide, by decide⟩ f2 (congrArg Value.int (own_nar hf2)) 391 rfl (hb hby at_390) ?_
                        refine own_aload X745 hx 393 rfl (hb hby at_391) rfl rfl ?_
                        refine own_iload X745 hx 395 rfl (hb hby at_393) rfl ?_
                        refine own_ldD X745 hx hZ rfl f752 ⟨by decide, by decide⟩ (own_x2 i2 i3) rfl 396 rfl (hb hby at_395) ?_
                        refine own_callS X745 hx hZ (y := (⟨"com/example/outpost/outpost/service/split/ExactSumRoundedPinLaw", "addIf", "(Lcom/example/outpost/outpost/service/split/ExactSum;ZD)V"⟩ : MethodName)) hown (own_hw hw 15 rfl) (own_hw hw 16 rfl) (by decide) (rm_if1 l Z a0 hw [] b714 f2 (own_x2 i2 i3) a726 k726 c745 r0745 r1745 r2745 (0 : UInt64) ((0 : Int) + (own_t f1 (own_x1 i1 i3))) T745.heap n0 z759 f746 f747 f748 f749 ge717 ge735 ne734 (own_x2_f i2 i3) (own_x2_b i2 i3) P745 (own_bt1 (own_tb f1 (own_x1_b i1 i3)))) (own_hw hw 18 rfl) (own_hw hw 17 rfl) (by decide) rfl (by rw [hml]; rfl) [(.ref b714), (.int f2), (.double (own_x2 i2 i3))] 0 (by decide) (Nat.le_of_eq rfl) (by decide) (by decide) (lenOf own_pd4 rfl) rfl rfl 399 rfl (hb hby at_396) fun v760 T760 Lc760 X760 hQ760 => ?_
                        obtain ⟨rfl, Nq760, Kq760, c760, r0760, r1760, r2760, f761, f762, f763, f764, P760⟩ := hQ760
                        have N765 := Fr.app N750 Nq760
                        have f766 := f751.keep Kq760
                        have f767 := f752.keep Kq760 (ninS ne715 (ninS ne732 nin0))
                        have f768 := f753.keep Kq760
                        have f769 := f754.keep Kq760 (ninS ne716 (ninS ne733 nin0))
                        have f770 := f746.keep Kq760
                        have z774 := Nat.le_trans z759 Kq760.1
                        show own_Go _ _ _ _ _ (State.setTop _ (mkF _ 399 _ []))
                        refine own_aload X760 hx 401 rfl (hb hby at_399) rfl rfl ?_
                        refine own_aload X760 hx 403 rfl (hb hby at_401) rfl rfl ?_
                        refine own_iload X760 hx 405 rfl (hb hby at_403) rfl ?_
                        refine own_ldZ X760 hx hZ rfl f769 ⟨by decide, by decide⟩ f0 (congrArg Value.int (own_nar hf0)) 406 rfl (hb hby at_405) ?_
                        refine own_aload X760 hx 408 rfl (hb hby at_406) rfl rfl ?_
                        refine own_iload X760 hx 410 rfl (hb hby at_408) rfl ?_
                        refine own_ldD X760 hx hZ rfl f767 ⟨by decide, by decide⟩ (own_x0 i0 i3) rfl 411 rfl (hb hby at_410) ?_
                        refine own_callS X760 hx hZ (y := (⟨"com/example/outpost/outpost/service/split/ExactSumRoundedPinLaw", "addIf", "(Lcom/example/outpost/outpost/service/split/ExactSum;ZD)V"⟩ : MethodName)) hown (own_hw hw 15 rfl) (own_hw hw 16 rfl) (by decide) (rm_if2 l Z a0 hw [] b714 f0 (own_x0 i0 i3) a726 k726 c760 r0760 r1760 r2760 (0 : UInt64) (((0 : Int) + (own_t f1 (own_x1 i1 i3))) + (own_t f2 (own_x2 i2 i3))) T760.heap n0 z774 f761 f762 f763 f764 ge717 ge735 ne734 (own_x0_f i0 i3) (own_x0_b i0 i3) P760 (own_bt2 (own_tb f1 (own_x1_b i1 i3)) (own_tb f2 (own_x2_b i2 i3)))) (own_hw hw 18 rfl) (own_hw hw 17 rfl) (by decide) rfl (by rw [hml]; rfl) [(.ref b714), (.int f0), (.double (own_x0 i0 i3))] 0 (by decide) (Nat.le_of_eq rfl) (by decide) (by decide) (lenOf own_pd4 rfl) rfl rfl 414 rfl (hb hby at_411) fun v775 T775 Lc775 X775 hQ775 => ?_
                        obtain ⟨rfl, Nq775, Kq775, c775, r0775, r1775, r2775, f776, f777, f778, f779, P775⟩ := hQ775
                        have N780 := Fr.app N765 Nq775
                        have f781 := f766.keep Kq775
                        have f782 := f767.keep Kq775 (ninS ne715 (ninS ne732 nin0))
                        have f783 := f768.keep Kq775
                        have f784 := f769.keep Kq775 (ninS ne716 (ninS ne733 nin0))
                        have f785 := f761.keep Kq775
                        have z789 := Nat.le_trans z774 Kq775.1
                        show own_Go _ _ _ _ _ (State.setTop _ (mkF _ 414 _ []))
                        refine own_aload X775 hx 416 rfl (hb hby at_414) rfl rfl ?_
                        refine own_virtual X775 hx hZ (y := (⟨"com/example/outpost/outpost/service/split/ExactSum", "rounded", "()D"⟩ : MethodName)) (z := (⟨"com/example/outpost/outpost/service/split/ExactSum", "rounded", "()D"⟩ : MethodName)) hown (own_hw hw 19 rfl) (own_hw hw 20 rfl) (own_hw hw 22 rfl) (own_hw hw 21 rfl) rfl (a := b714) f776 (by decide) (rm_rounded l Z a0 hw [] b714 a726 k726 c775 r0775 r1775 r2775 (0 : UInt64) ((((0 : Int) + (own_t f1 (own_x1 i1 i3))) + (own_t f2 (own_x2 i2 i3))) + (own_t f0 (own_x0 i0 i3))) T775.heap n0 z789 f777 f778 f779 P775) (own_hw hw 23 rfl) (own_hw hw 4 rfl) (by decide) rfl (by rw [hml]; rfl) [] 0 (by decide) (Nat.le_of_eq rfl) (by decide) (by decide) (lenOf own_pd5 rfl) rfl rfl 419 rfl (hb hby at_416) fun v790 T790 Lc790 X790 hQ790 => ?_
                        obtain ⟨d790, rfl, Nq790, e790, fd790, zd790⟩ := hQ790
                        have N791 := Fr.app N780 Nq790
                        show own_Go _ _ _ _ _ (State.setTop _ (mkF _ 419 _ [(.double d790)]))
                        refine own_dload X790 hx 421 rfl (hb hby at_419) rfl ?_
                        refine own_dcmp X790 hx 422 rfl (hb hby at_421) (0 : Int32) (own_end fd790 zd790 hE hA hB hc.2.1 (own_p3 _ _ _)) ?_
                        refine own_ifNo X790 hx 425 rfl (hb hby at_422) (by decide) ?_
                        refine own_iconst X790 hx 426 rfl (hb hby at_425) (1 : Int32) rfl ?_
                        refine own_goto X790 hx 430 (hb hby at_426) (by decide) rfl ?_
                        refine own_ret X790 (some (.int (1 : Int32))) (fun h => by rw [Bd.returns] at h; cases h) Bd.notSynchronized (by decide) (by decide) ?_ (fun fs hr => retN X790 hx (t := .boolean) Bd.returns (by simp) (hb hby at_430) hr)
                        show Q_rm0 Z i0 i1 i2 i3 i4 h0 n0 _ T790.heap _
                        rw [e790]
                        exact ⟨rfl, N791⟩
                      ·
                        refine own_icmpYes X469 hx 333 (hb hby at_318) (feq hc713).2 (by decide) rfl ?_
                        refine own_iload X469 hx 335 rfl (hb hby at_333) rfl ?_
                        refine own_iconst X469 hx 336 rfl (hb hby at_335) (4 : Int32) rfl ?_
                        by_cases hc792 : own_pm i4 = (4 : Int32)
                        ·
                          refine own_icmpNo X469 hx 339 rfl (hb hby at_336) (teq hc792).2 ?_
                          refine own_iconst X469 hx 340 rfl (hb hby at_339) (2 : Int32) rfl ?_
                          refine own_istore X469 hx 342 rfl (hb hby at_340) #[.val (.int i0), .val (.int i1), .val (.int i2), .val (.int i3), .val (.int i4), .val (.int (own_sa i3)), .val (.int (own_sb i3)), .val (.int (own_tt i3)), .val (.int f0), .val (.int f1), .val (.int f2), .val (.int (own_pm i4)), .val (.long (own_A i0 (own_sa i3))), .second, .val (.long (own_A i1 (own_sb i3))), .second, .val (.double (own_x0 i0 i3)), .second, .val (.double (own_x1 i1 i3)), .second, .val (.double (own_x2 i2 i3)), .second, .val (.long (a1 + b1)), .second, .val (.double c1), .second, .val (.double (FP.dadd (FP.l2d (a1 + b1)) c1)), .second, .val (.ref b429), .val (.ref b448), .val (.int (2 : Int32)), .unset, .unset, .unset] rfl ?_
                          refine own_iconst X469 hx 343 rfl (hb hby at_342) (0 : Int32) rfl ?_
                          refine own_istore X469 hx 345 rfl (hb hby at_343) #[.val (.int i0), .val (.int i1), .val (.int i2), .val (.int i3), .val (.int i4), .val (.int (own_sa i3)), .val (.int (own_sb i3)), .val (.int (own_tt i3)), .val (.int f0), .val (.int f1), .val (.int f2), .val (.int (own_pm i4)), .val (.long (own_A i0 (own_sa i3))), .second, .val (.long (own_A i1 (own_sb i3))), .second, .val (.double (own_x0 i0 i3)), .second, .val (.double (own_x1 i1 i3)), .second, .val (.double (own_x2 i2 i3)), .second, .val (.long (a1 + b1)), .second, .val (.double c1), .second, .val (.double (FP.dadd (FP.l2d (a1 + b1)) c1)), .second, .val (.ref b429), .val (.ref b448), .val (.int (2 : Int32)), .val (.int (0 : Int32)), .unset, .unset] rfl ?_
                          refine own_iconst X469 hx 346 rfl (hb hby at_345) (1 : Int32) rfl ?_
                          refine own_istore X469 hx 348 rfl (hb hby at_346) #[.val (.int i0), .val (.int i1), .val (.int i2), .val (.int i3), .val (.int i4), .val (.int (own_sa i3)), .val (.int (own_sb i3)), .val (.int (own_tt i3)), .val (.int f0), .val (.int f1), .val (.int f2), .val (.int (own_pm i4)), .val (.long (own_A i0 (own_sa i3))), .second, .val (.long (own_A i1 (own_sb i3))), .second, .val (.double (own_x0 i0 i3)), .second, .val (.double (own_x1 i1 i3)), .second, .val (.double (own_x2 i2 i3)), .second, .val (.long (a1 + b1)), .second, .val (.double c1), .second, .val (.double (FP.dadd (FP.l2d (a1 + b1)) c1)), .second, .val (.ref b429), .val (.ref b448), .val (.int (2 : Int32)), .val (.int (0 : Int32)), .val (.int (1 : Int32)), .unset] rfl ?_
                          refine own_goto X469 hx 360 (hb hby at_348) (by decide) rfl ?_
                          refine own_new X469 hx hZ hown (own_hw hw 2 rfl) (own_hw hw 3 rfl) (own_hw hw 4 rfl) e469 363 rfl (hb hby at_360) (by decide) (by decide) fun T793 h793 b793 g793 X793 e793 E793 A793 D793 => ?_
                          have ne794 : b429 ≠ b793 := Nat.ne_of_lt (Nat.lt_of_lt_of_le f471.lt (Nat.le_of_eq g793.symm))
                          have ne795 : b448 ≠ b793 := Nat.ne_of_lt (Nat.lt_of_lt_of_le f473.lt (Nat.le_of_eq g793.symm))
                          have ge796 : n0 ≤ b793 := Nat.le_trans z474 (Nat.le_of_eq g793.symm)
                          have f797 := f471.ext E793
                          have f798 := f472.ext E793
                          have f799 := f473.ext E793
                          have f800 := f470.ext E793
                          have z801 := Nat.le_trans z474 E793.1
                          have f802 : Fld Z h793 b793 "com/example/outpost/outpost/service/split/ExactSum" "parts" "[D" .null := D793 (Or.inl (own_hw hw 12 rfl)) (ty := (.array .double)) (by decide)
                          have f803 : Fld Z h793 b793 "com/example/outpost/outpost/service/split/ExactSum" "scratch" "[D" .null := D793 (Or.inl (own_hw hw 14 rfl)) (ty := (.array .double)) (by decide)
                          have f804 : Fld Z h793 b793 "com/example/outpost/outpost/service/split/ExactSum" "count" "I" (.int (0 : Int32)) := D793 (Or.inl (own_hw hw 25 rfl)) (ty := .int) (by decide)
                          refine own_dup X793 hx 364 rfl (hb hby at_363) rfl ?_
                          refine own_special X793 hx hZ (y := (⟨"com/example/outpost/outpost/service/split/ExactSum", "<init>", "()V"⟩ : MethodName)) hown rfl (own_hw hw 5 rfl) (own_hw hw 6 rfl) (a := b793) (by decide) rfl (rm_init l Z a0 hw [] b793 h793 n0 z801 A793 f802 f804 f803 ge796) (own_hw hw 7 rfl) (own_hw hw 4 rfl) (by decide) e793 (by rw [hml]; rfl) [] 1 (by decide) (Nat.le_of_eq rfl) (by decide) (by decide) (lenOf own_pd3 rfl) rfl rfl 367 rfl (hb hby at_364) fun v805 T805 Lc805 X805 hQ805 => ?_
                          obtain ⟨rfl, Nq805, Kq805, a805, k805, sz805, f806, f807, f808, f809⟩ := hQ805
                          have N810 := Fr.app N475 Nq805
                          have ne811 : b429 ≠ a805 := Nat.ne_of_lt (Nat.lt_of_lt_of_le f797.lt sz805)
                          have ne812 : b448 ≠ a805 := Nat.ne_of_lt (Nat.lt_of_lt_of_le f799.lt sz805)
                          have ne813 : b793 ≠ a805 := Nat.ne_of_lt (Nat.lt_of_lt_of_le A793.lt sz805)
                          have ge814 : n0 ≤ a805 := Nat.le_trans z801 sz805
                          have f815 := f797.keep Kq805
                          have f816 := f798.keep Kq805 (ninS ne794 nin0)
                          have f817 := f799.keep Kq805
                          have f818 := f800.keep Kq805 (ninS ne795 nin0)
                          have f819 := A793.keep Kq805
                          have z823 := Nat.le_trans z801 Kq805.1
                          show own_Go _ _ _ _ _ (State.setTop _ (mkF _ 367 _ [(.ref b793)]))
                          refine own_astore X805 hx 369 rfl (hb hby at_367) rfl #[.val (.int i0), .val (.int i1), .val (.int i2), .val (.int i3), .val (.int i4), .val (.int (own_sa i3)), .val (.int (own_sb i3)), .val (.int (own_tt i3)), .val (.int f0), .val (.int f1), .val (.int f2), .val (.int (own_pm i4)), .val (.long (own_A i0 (own_sa i3))), .second, .val (.long (own_A i1 (own_sb i3))), .second, .val (.double (own_x0 i0 i3)), .second, .val (.double (own_x1 i1 i3)), .second, .val (.double (own_x2 i2 i3)), .second, .val (.long (a1 + b1)), .second, .val (.double c1), .second, .val (.double (FP.dadd (FP.l2d (a1 + b1)) c1)), .second, .val (.ref b429), .val (.ref b448), .val (.int (2 : Int32)), .val (.int (0 : Int32)), .val (.int (1 : Int32)), .val (.ref b793)] rfl ?_
                          refine own_aload X805 hx 371 rfl (hb hby at_369) rfl rfl ?_
                          refine own_aload X805 hx 373 rfl (hb hby at_371) rfl rfl ?_
                          refine own_iload X805 hx 375 rfl (hb hby at_373) rfl ?_
                          refine own_ldZ X805 hx hZ rfl f818 ⟨by decide, by decide⟩ f2 (congrArg Value.int (own_nar hf2)) 376 rfl (hb hby at_375) ?_
                          refine own_aload X805 hx 378 rfl (hb hby at_376) rfl rfl ?_
                          refine own_iload X805 hx 380 rfl (hb hby at_378) rfl ?_
                          refine own_ldD X805 hx hZ rfl f816 ⟨by decide, by decide⟩ (own_x2 i2 i3) rfl 381 rfl (hb hby at_380) ?_
                          refine own_callS X805 hx hZ (y := (⟨"com/example/outpost/outpost/service/split/ExactSumRoundedPinLaw", "addIf", "(Lcom/example/outpost/outpost/service/split/ExactSum;ZD)V"⟩ : MethodName)) hown (own_hw hw 15 rfl) (own_hw hw 16 rfl) (by decide) (rm_if0 l Z a0 hw [] b793 f2 (own_x2 i2 i3) a805 k805 (0 : Int32) (0 : UInt64) (0 : UInt64) (0 : UInt64) (0 : UInt64) (0 : Int) T805.heap n0 z823 f806 f807 f808 f809 ge796 ge814 ne813 (own_x2_f i2 i3) (own_x2_b i2 i3) ⟨rfl, rfl⟩ own_bt0) (own_hw hw 18 rfl) (own_hw hw 17 rfl) (by decide) rfl (by rw [hml]; rfl) [(.ref b793), (.int f2), (.double (own_x2 i2 i3))] 0 (by decide) (Nat.le_of_eq rfl) (by decide) (by decide) (lenOf own_pd4 rfl) rfl rfl 384 rfl (hb hby at_381) fun v824 T824 Lc824 X824 hQ824 => ?_
                          obtain ⟨rfl, Nq824, Kq824, c824, r0824, r1824, r2824, f825, f826, f827, f828, P824⟩ := hQ824
                          have N829 := Fr.app N810 Nq824
                          have f830 := f815.keep Kq824
                          have f831 := f816.keep Kq824 (ninS ne794 (ninS ne811 nin0))
                          have f832 := f817.keep Kq824
                          have f833 := f818.keep Kq824 (ninS ne795 (ninS ne812 nin0))
                          have f834 := f806.keep Kq824
                          have z838 := Nat.le_trans z823 Kq824.1
                          show own_Go _ _ _ _ _ (State.setTop _ (mkF _ 384 _ []))
                          refine own_aload X824 hx 386 rfl (hb hby at_384) rfl rfl ?_
                          refine own_aload X824 hx 388 rfl (hb hby at_386) rfl rfl ?_
                          refine own_iload X824 hx 390 rfl (hb hby at_388) rfl ?_
                          refine own_ldZ X824 hx hZ rfl f833 ⟨by decide, by decide⟩ f0 (congrArg Value.int (own_nar hf0)) 391 rfl (hb hby at_390) ?_
                          refine own_aload X824 hx 393 rfl (hb hby at_391) rfl rfl ?_
                          refine own_iload X824 hx 395 rfl (hb hby at_393) rfl ?_
                          refine own_ldD X824 hx hZ rfl f831 ⟨by decide, by decide⟩ (own_x0 i0 i3) rfl 396 rfl (hb hby at_395) ?_
                          refine own_callS X824 hx hZ (y := (⟨"com/example/outpost/outpost/service/split/ExactSumRoundedPinLaw", "addIf", "(Lcom/example/outpost/outpost/service/split/ExactSum;ZD)V"⟩ : MethodName)) hown (own_hw hw 15 rfl) (own_hw hw 16 rfl) (by decide) (rm_if1 l Z a0 hw [] b793 f0 (own_x0 i0 i3) a805 k805 c824 r0824 r1824 r2824 (0 : UInt64) ((0 : Int) + (own_t f2 (own_x2 i2 i3))) T824.heap n0 z838 f825 f826 f827 f828 ge796 ge814 ne813 (own_x0_f i0 i3) (own_x0_b i0 i3) P824 (own_bt1 (own_tb f2 (own_x2_b i2 i3)))) (own_hw hw 18 rfl) (own_hw hw 17 rfl) (by decide) rfl (by rw [hml]; rfl) [(.ref b793), (.int f0), (.double (own_x0 i0 i3))] 0 (by decide) (Nat.le_of_eq rfl) (by decide) (by decide) (lenOf own_pd4 rfl) rfl rfl 399 rfl (hb hby at_396) fun v839 T839 Lc839 X839 hQ839 => ?_
                          obtain ⟨rfl, Nq839, Kq839, c839, r0839, r1839, r2839, f840, f841, f842, f843, P839⟩ := hQ839
                          have N844 := Fr.app N829 Nq839
                          have f845 := f830.keep Kq839
                          have f846 := f831.keep Kq839 (ninS ne794 (ninS ne811 nin0))
                          have f847 := f832.keep Kq839
                          have f848 := f833.keep Kq839 (ninS ne795 (ninS ne812 nin0))
                          have f849 := f825.keep Kq839
                          have z853 := Nat.le_trans z838 Kq839.1
                          show own_Go _ _ _ _ _ (State.setTop _ (mkF _ 399 _ []))
                          refine own_aload X839 hx 401 rfl (hb hby at_399) rfl rfl ?_
                          refine own_aload X839 hx 403 rfl (hb hby at_401) rfl rfl ?_
                          refine own_iload X839 hx 405 rfl (hb hby at_403) rfl ?_
                          refine own_ldZ X839 hx hZ rfl f848 ⟨by decide, by decide⟩ f1 (congrArg Value.int (own_nar hf1)) 406 rfl (hb hby at_405) ?_
                          refine own_aload X839 hx 408 rfl (hb hby at_406) rfl rfl ?_
                          refine own_iload X839 hx 410 rfl (hb hby at_408) rfl ?_
                          refine own_ldD X839 hx hZ rfl f846 ⟨by decide, by decide⟩ (own_x1 i1 i3) rfl 411 rfl (hb hby at_410) ?_
                          refine own_callS X839 hx hZ (y := (⟨"com/example/outpost/outpost/service/split/ExactSumRoundedPinLaw", "addIf", "(Lcom/example/outpost/outpost/service/split/ExactSum;ZD)V"⟩ : MethodName)) hown (own_hw hw 15 rfl) (own_hw hw 16 rfl) (by decide) (rm_if2 l Z a0 hw [] b793 f1 (own_x1 i1 i3) a805 k805 c839 r0839 r1839 r2839 (0 : UInt64) (((0 : Int) + (own_t f2 (own_x2 i2 i3))) + (own_t f0 (own_x0 i0 i3))) T839.heap n0 z853 f840 f841 f842 f843 ge796 ge814 ne813 (own_x1_f i1 i3) (own_x1_b i1 i3) P839 (own_bt2 (own_tb f2 (own_x2_b i2 i3)) (own_tb f0 (own_x0_b i0 i3)))) (own_hw hw 18 rfl) (own_hw hw 17 rfl) (by decide) rfl (by rw [hml]; rfl) [(.ref b793), (.int f1), (.double (own_x1 i1 i3))] 0 (by decide) (Nat.le_of_eq rfl) (by decide) (by decide) (lenOf own_pd4 rfl) rfl rfl 414 rfl (hb hby at_411) fun v854 T854 Lc854 X854 hQ854 => ?_
                          obtain ⟨rfl, Nq854, Kq854, c854, r0854, r1854, r2854, f855, f856, f857, f858, P854⟩ := hQ854
                          have N859 := Fr.app N844 Nq854
                          have f860 := f845.keep Kq854
                          have f861 := f846.keep Kq854 (ninS ne794 (ninS ne811 nin0))
                          have f862 := f847.keep Kq854
                          have f863 := f848.keep Kq854 (ninS ne795 (ninS ne812 nin0))
                          have f864 := f840.keep Kq854
                          have z868 := Nat.le_trans z853 Kq854.1
                          show own_Go _ _ _ _ _ (State.setTop _ (mkF _ 414 _ []))
                          refine own_aload X854 hx 416 rfl (hb hby at_414) rfl rfl ?_
                          refine own_virtual X854 hx hZ (y := (⟨"com/example/outpost/outpost/service/split/ExactSum", "rounded", "()D"⟩ : MethodName)) (z := (⟨"com/example/outpost/outpost/service/split/ExactSum", "rounded", "()D"⟩ : MethodName)) hown (own_hw hw 19 rfl) (own_hw hw 20 rfl) (own_hw hw 22 rfl) (own_hw hw 21 rfl) rfl (a := b793) f855 (by decide) (rm_rounded l Z a0 hw [] b793 a805 k805 c854 r0854 r1854 r2854 (0 : UInt64) ((((0 : Int) + (own_t f2 (own_x2 i2 i3))) + (own_t f0 (own_x0 i0 i3))) + (own_t f1 (own_x1 i1 i3))) T854.heap n0 z868 f856 f857 f858 P854) (own_hw hw 23 rfl) (own_hw hw 4 rfl) (by decide) rfl (by rw [hml]; rfl) [] 0 (by decide) (Nat.le_of_eq rfl) (by decide) (by decide) (lenOf own_pd5 rfl) rfl rfl 419 rfl (hb hby at_416) fun v869 T869 Lc869 X869 hQ869 => ?_
                          obtain ⟨d869, rfl, Nq869, e869, fd869, zd869⟩ := hQ869
                          have N870 := Fr.app N859 Nq869
                          show own_Go _ _ _ _ _ (State.setTop _ (mkF _ 419 _ [(.double d869)]))
                          refine own_dload X869 hx 421 rfl (hb hby at_419) rfl ?_
                          refine own_dcmp X869 hx 422 rfl (hb hby at_421) (0 : Int32) (own_end fd869 zd869 hE hA hB hc.2.1 (own_p4 _ _ _)) ?_
                          refine own_ifNo X869 hx 425 rfl (hb hby at_422) (by decide) ?_
                          refine own_iconst X869 hx 426 rfl (hb hby at_425) (1 : Int32) rfl ?_
                          refine own_goto X869 hx 430 (hb hby at_426) (by decide) rfl ?_
                          refine own_ret X869 (some (.int (1 : Int32))) (fun h => by rw [Bd.returns] at h; cases h) Bd.notSynchronized (by decide) (by decide) ?_ (fun fs hr => retN X869 hx (t := .boolean) Bd.returns (by simp) (hb hby at_430) hr)
                          show Q_rm0 Z i0 i1 i2 i3 i4 h0 n0 _ T869.heap _
                          rw [e869]
                          exact ⟨rfl, N870⟩
                        ·
                          refine own_icmpYes X469 hx 351 (hb hby at_336) (feq hc792).2 (by decide) rfl ?_
                          refine own_iconst X469 hx 352 rfl (hb hby at_351) (2 : Int32) rfl ?_
                          refine own_istore X469 hx 354 rfl (hb hby at_352) #[.val (.int i0), .val (.int i1), .val (.int i2), .val (.int i3), .val (.int i4), .val (.int (own_sa i3)), .val (.int (own_sb i3)), .val (.int (own_tt i3)), .val (.int f0), .val (.int f1), .val (.int f2), .val (.int (own_pm i4)), .val (.long (own_A i0 (own_sa i3))), .second, .val (.long (own_A i1 (own_sb i3))), .second, .val (.double (own_x0 i0 i3)), .second, .val (.double (own_x1 i1 i3)), .second, .val (.double (own_x2 i2 i3)), .second, .val (.long (a1 + b1)), .second, .val (.double c1), .second, .val (.double (FP.dadd (FP.l2d (a1 + b1)) c1)), .second, .val (.ref b429), .val (.ref b448), .val (.int (2 : Int32)), .unset, .unset, .unset] rfl ?_
                          refine own_iconst X469 hx 355 rfl (hb hby at_354) (1 : Int32) rfl ?_
                          refine own_istore X469 hx 357 rfl (hb hby at_355) #[.val (.int i0), .val (.int i1), .val (.int i2), .val (.int i3), .val (.int i4), .val (.int (own_sa i3)), .val (.int (own_sb i3)), .val (.int (own_tt i3)), .val (.int f0), .val (.int f1), .val (.int f2), .val (.int (own_pm i4)), .val (.long (own_A i0 (own_sa i3))), .second, .val (.long (own_A i1 (own_sb i3))), .second, .val (.double (own_x0 i0 i3)), .second, .val (.double (own_x1 i1 i3)), .second, .val (.double (own_x2 i2 i3)), .second, .val (.long (a1 + b1)), .second, .val (.double c1), .second, .val (.double (FP.dadd (FP.l2d (a1 + b1)) c1)), .second, .val (.ref b429), .val (.ref b448), .val (.int (2 : Int32)), .val (.int (1 : Int32)), .unset, .unset] rfl ?_
                          refine own_iconst X469 hx 358 rfl (hb hby at_357) (0 : Int32) rfl ?_
                          refine own_istore X469 hx 360 rfl (hb hby at_358) #[.val (.int i0), .val (.int i1), .val (.int i2), .val (.int i3), .val (.int i4), .val (.int (own_sa i3)), .val (.int (own_sb i3)), .val (.int (own_tt i3)), .val (.int f0), .val (.int f1), .val (.int f2), .val (.int (own_pm i4)), .val (.long (own_A i0 (own_sa i3))), .second, .val (.long (own_A i1 (own_sb i3))), .second, .val (.double (own_x0 i0 i3)), .second, .val (.double (own_x1 i1 i3)), .second, .val (.double (own_x2 i2 i3)), .second, .val (.long (a1 + b1)), .second, .val (.double c1), .second, .val (.double (FP.dadd (FP.l2d (a1 + b1)) c1)), .second, .val (.ref b429), .val (.ref b448), .val (.int (2 : Int32)), .val (.int (1 : Int32)), .val (.int (0 : Int32)), .unset] rfl ?_
                          refine own_new X469 hx hZ hown (own_hw hw 2 rfl) (own_hw hw 3 rfl) (own_hw hw 4 rfl) e469 363 rfl (hb hby at_360) (by decide) (by decide) fun T871 h871 b871 g871 X871 e871 E871 A871 D871 => ?_
                          have ne872 : b429 ≠ b871 := Nat.ne_of_lt (Nat.lt_of_lt_of_le f471.lt (Nat.le_of_eq g871.symm))
                          have ne873 : b448 ≠ b871 := Nat.ne_of_lt (Nat.lt_of_lt_of_le f473.lt (Nat.le_of_eq g871.symm))
                          have ge874 : n0 ≤ b871 := Nat.le_trans z474 (Nat.le_of_eq g871.symm)
                          have f875 := f471.ext E871
                          have f876 := f472.ext E871
                          have f877 := f473.ext E871
                          have f878 := f470.ext E871
                          have z879 := Nat.le_trans z474 E871.1
                          have f880 : Fld Z h871 b871 "com/example/outpost/outpost/service/split/ExactSum" "parts" "[D" .null := D871 (Or.inl (own_hw hw 12 rfl)) (ty := (.array .double)) (by decide)
                          have f881 : Fld Z h871 b871 "com/example/outpost/outpost/service/split/ExactSum" "scratch" "[D" .null := D871 (Or.inl (own_hw hw 14 rfl)) (ty := (.array .double)) (by decide)
                          have f882 : Fld Z h871 b871 "com/example/outpost/outpost/service/split/ExactSum" "count" "I" (.int (0 : Int32)) := D871 (Or.inl (own_hw hw 25 rfl)) (ty := .int) (by decide)
                          refine own_dup X871 hx 364 rfl (hb hby at_363) rfl ?_
                          refine own_special X871 hx hZ (y := (⟨"com/example/outpost/outpost/service/split/ExactSum", "<init>", "()V"⟩ : MethodName)) hown rfl (own_hw hw 5 rfl) (own_hw hw 6 rfl) (a := b871) (by decide) rfl (rm_init l Z a0 hw [] b871 h871 n0 z879 A871 f880 f882 f881 ge874) (own_hw hw 7 rfl) (own_hw hw 4 rfl) (by decide) e871 (by rw [hml]; rfl) [] 1 (by decide) (Nat.le_of_eq rfl) (by decide) (by decide) (lenOf own_pd3 rfl) rfl rfl 367 rfl (hb hby at_364) fun v883 T883 Lc883 X883 hQ883 => ?_
                          obtain ⟨rfl, Nq883, Kq883, a883, k883, sz883, f884, f885, f886, f887⟩ := hQ883
                          have N888 := Fr.app N475 Nq883
                          have ne889 : b429 ≠ a883 := Nat.ne_of_lt (Nat.lt_of_lt_of_le f875.lt sz883)
                          have ne890 : b448 ≠ a883 := Nat.ne_of_lt (Nat.lt_of_lt_of_le f877.lt sz883)
                          have ne891 : b871 ≠ a883 := Nat.ne_of_lt (Nat.lt_of_lt_of_le A871.lt sz883)
                          have ge892 : n0 ≤ a883 := Nat.le_trans z879 sz883
                          have f893 := f875.keep Kq883
                          have f894 := f876.keep Kq883 (ninS ne872 nin0)
                          have f895 := f877.keep Kq883
                          have f896 := f878.keep Kq883 (ninS ne873 nin0)
                          have f897 := A871.keep Kq883
                          have z901 := Nat.le_trans z879 Kq883.1
                          show own_Go _ _ _ _ _ (State.setTop _ (mkF _ 367 _ [(.ref b871)]))
                          refine own_astore X883 hx 369 rfl (hb hby at_367) rfl #[.val (.int i0), .val (.int i1), .val (.int i2), .val (.int i3), .val (.int i4), .val (.int (own_sa i3)), .val (.int (own_sb i3)), .val (.int (own_tt i3)), .val (.int f0), .val (.int f1), .val (.int f2), .val (.int (own_pm i4)), .val (.long (own_A i0 (own_sa i3))), .second, .val (.long (own_A i1 (own_sb i3))), .second, .val (.double (own_x0 i0 i3)), .second, .val (.double (own_x1 i1 i3)), .second, .val (.double (own_x2 i2 i3)), .second, .val (.long (a1 + b1)), .second, .val (.double c1), .second, .val (.double (FP.dadd (FP.l2d (a1 + b1)) c1)), .second, .val (.ref b429), .val (.ref b448), .val (.int (2 : Int32)), .val (.int (1 : Int32)), .val (.int (0 : Int32)), .val (.ref b871)] rfl ?_
                          refine own_aload X883 hx 371 rfl (hb hby at_369) rfl rfl ?_
                          refine own_aload X883 hx 373 rfl (hb hby at_371) rfl rfl ?_
                          refine own_iload X883 hx 375 rfl (hb hby at_373) rfl ?_
                          refine own_ldZ X883 hx hZ rfl f896 ⟨by decide, by decide⟩ f2 (congrArg Value.int (own_nar hf2)) 376 rfl (hb hby at_375) ?_
                          refine own_aload X883 hx 378 rfl (hb hby at_376) rfl rfl ?_
                          refine own_iload X883 hx 380 rfl (hb hby at_378) rfl ?_
                          refine own_ldD X883 hx hZ rfl f894 ⟨by decide, by decide⟩ (own_x2 i2 i3) rfl 381 rfl (hb hby at_380) ?_
                          refine own_callS X883 hx hZ (y := (⟨"com/example/outpost/outpost/service/split/ExactSumRoundedPinLaw", "addIf", "(Lcom/example/outpost/outpost/service/split/ExactSum;ZD)V"⟩ : MethodName)) hown (own_hw hw 15 rfl) (own_hw hw 16 rfl) (by decide) (rm_if0 l Z a0 hw [] b871 f2 (own_x2 i2 i3) a883 k883 (0 : Int32) (0 : UInt64) (0 : UInt64) (0 : UInt64) (0 : UInt64) (0 : Int) T883.heap n0 z901 f884 f885 f886 f887 ge874 ge892 ne891 (own_x2_f i2 i3) (own_x2_b i2 i3) ⟨rfl, rfl⟩ own_bt0) (own_hw hw 18 rfl) (own_hw hw 17 rfl) (by decide) rfl (by rw [hml]; rfl) [(.ref b871), (.int f2), (.double (own_x2 i2 i3))] 0 (by decide) (Nat.le_of_eq rfl) (by decide) (by decide) (lenOf own_pd4 rfl) rfl rfl 384 rfl (hb hby at_381) fun v902 T902 Lc902 X902 hQ902 => ?_
                          obtain ⟨rfl, Nq902, Kq902, c902, r0902, r1902, r2902, f903, f904, f905, f906, P902⟩ := hQ902
                          have N907 := Fr.app N888 Nq902
                          have f908 := f893.keep Kq902
                          have f909 := f894.keep Kq902 (ninS ne872 (ninS ne889 nin0))
                          have f910 := f895.keep Kq902
                          have f911 := f896.keep Kq902 (ninS ne873 (ninS ne890 nin0))
                          have f912 := f884.keep Kq902
                          have z916 := Nat.le_trans z901 Kq902.1
                          show own_Go _ _ _ _ _ (State.setTop _ (mkF _ 384 _ []))
                          refine own_aload X902 hx 386 rfl (hb hby at_384) rfl rfl ?_
                          refine own_aload X902 hx 388 rfl (hb hby at_386) rfl rfl ?_
                          refine own_iload X902 hx 390 rfl (hb hby at_388) rfl ?_
                          refine own_ldZ X902 hx hZ rfl f911 ⟨by decide, by decide⟩ f1 (congrArg Value.int (own_nar hf1)) 391 rfl (hb hby at_390) ?_
                          refine own_aload X902 hx 393 rfl (hb hby at_391) rfl rfl ?_
                          refine own_iload X902 hx 395 rfl (hb hby at_393) rfl ?_
                          refine own_ldD X902 hx hZ rfl f909 ⟨by decide, by decide⟩ (own_x1 i1 i3) rfl 396 rfl (hb hby at_395) ?_
                          refine own_callS X902 hx hZ (y := (⟨"com/example/outpost/outpost/service/split/ExactSumRoundedPinLaw", "addIf", "(Lcom/example/outpost/outpost/service/split/ExactSum;ZD)V"⟩ : MethodName)) hown (own_hw hw 15 rfl) (own_hw hw 16 rfl) (by decide) (rm_if1 l Z a0 hw [] b871 f1 (own_x1 i1 i3) a883 k883 c902 r0902 r1902 r2902 (0 : UInt64) ((0 : Int) + (own_t f2 (own_x2 i2 i3))) T902.heap n0 z916 f903 f904 f905 f906 ge874 ge892 ne891 (own_x1_f i1 i3) (own_x1_b i1 i3) P902 (own_bt1 (own_tb f2 (own_x2_b i2 i3)))) (own_hw hw 18 rfl) (own_hw hw 17 rfl) (by decide) rfl (by rw [hml]; rfl) [(.ref b871), (.int f1), (.double (own_x1 i1 i3))] 0 (by decide) (Nat.le_of_eq rfl) (by decide) (by decide) (lenOf own_pd4 rfl) rfl rfl 399 rfl (hb hby at_396) fun v917 T917 Lc917 X917 hQ917 => ?_
                          obtain ⟨rfl, Nq917, Kq917, c917, r0917, r1917, r2917, f918, f919, f920, f921, P917⟩ := hQ917
                          have N922 := Fr.app N907 Nq917
                          have f923 := f908.keep Kq917
                          have f924 := f909.keep Kq917 (ninS ne872 (ninS ne889 nin0))
                          have f925 := f910.keep Kq917
                          have f926 := f911.keep Kq917 (ninS ne873 (ninS ne890 nin0))
                          have f927 := f903.keep Kq917
                          have z931 := Nat.le_trans z916 Kq917.1
                          show own_Go _ _ _ _ _ (State.setTop _ (mkF _ 399 _ []))
                          refine own_aload X917 hx 401 rfl (hb hby at_399) rfl rfl ?_
                          refine own_aload X917 hx 403 rfl (hb hby at_401) rfl rfl ?_
                          refine own_iload X917 hx 405 rfl (hb hby at_403) rfl ?_
                          refine own_ldZ X917 hx hZ rfl f926 ⟨by decide, by decide⟩ f0 (congrArg Value.int (own_nar hf0)) 406 rfl (hb hby at_405) ?_
                          refine own_aload X917 hx 408 rfl (hb hby at_406) rfl rfl ?_
                          refine own_iload X917 hx 410 rfl (hb hby at_408) rfl ?_
                          refine own_ldD X917 hx hZ rfl f924 ⟨by decide, by decide⟩ (own_x0 i0 i3) rfl 411 rfl (hb hby at_410) ?_
                          refine own_callS X917 hx hZ (y := (⟨"com/example/outpost/outpost/service/split/ExactSumRoundedPinLaw", "addIf", "(Lcom/example/outpost/outpost/service/split/ExactSum;ZD)V"⟩ : MethodName)) hown (own_hw hw 15 rfl) (own_hw hw 16 rfl) (by decide) (rm_if2 l Z a0 hw [] b871 f0 (own_x0 i0 i3) a883 k883 c917 r0917 r1917 r2917 (0 : UInt64) (((0 : Int) + (own_t f2 (own_x2 i2 i3))) + (own_t f1 (own_x1 i1 i3))) T917.heap n0 z931 f918 f919 f920 f921 ge874 ge892 ne891 (own_x0_f i0 i3) (own_x0_b i0 i3) P917 (own_bt2 (own_tb f2 (own_x2_b i2 i3)) (own_tb f1 (own_x1_b i1 i3)))) (own_hw hw 18 rfl) (own_hw hw 17 rfl) (by decide) rfl (by rw [hml]; rfl) [(.ref b871), (.int f0), (.double (own_x0 i0 i3))] 0 (by decide) (Nat.le_of_eq rfl) (by decide) (by decide) (lenOf own_pd4 rfl) rfl rfl 414 rfl (hb hby at_411) fun v932 T932 Lc932 X932 hQ932 => ?_
                          obtain ⟨rfl, Nq932, Kq932, c932, r0932, r1932, r2932, f933, f934, f935, f936, P932⟩ := hQ932
                          have N937 := Fr.app N922 Nq932
                          have f938 := f923.keep Kq932
                          have f939 := f924.keep Kq932 (ninS ne872 (ninS ne889 nin0))
                          have f940 := f925.keep Kq932
                          have f941 := f926.keep Kq932 (ninS ne873 (ninS ne890 nin0))
                          have f942 := f918.keep Kq932
                          have z946 := Nat.le_trans z931 Kq932.1
                          show own_Go _ _ _ _ _ (State.setTop _ (mkF _ 414 _ []))
                          refine own_aload X932 hx 416 rfl (hb hby at_414) rfl rfl ?_
                          refine own_virtual X932 hx hZ (y := (⟨"com/example/outpost/outpost/service/split/ExactSum", "rounded", "()D"⟩ : MethodName)) (z := (⟨"com/example/outpost/outpost/service/split/ExactSum", "rounded", "()D"⟩ : MethodName)) hown (own_hw hw 19 rfl) (own_hw hw 20 rfl) (own_hw hw 22 rfl) (own_hw hw 21 rfl) rfl (a := b871) f933 (by decide) (rm_rounded l Z a0 hw [] b871 a883 k883 c932 r0932 r1932 r2932 (0 : UInt64) ((((0 : Int) + (own_t f2 (own_x2 i2 i3))) + (own_t f1 (own_x1 i1 i3))) + (own_t f0 (own_x0 i0 i3))) T932.heap n0 z946 f934 f935 f936 P932) (own_hw hw 23 rfl) (own_hw hw 4 rfl) (by decide) rfl (by rw [hml]; rfl) [] 0 (by decide) (Nat.le_of_eq rfl) (by decide) (by decide) (lenOf own_pd5 rfl) rfl rfl 419 rfl (hb hby at_416) fun v947 T947 Lc947 X947 hQ947 => ?_
                          obtain ⟨d947, rfl, Nq947, e947, fd947, zd947⟩ := hQ947
                          have N948 := Fr.app N937 Nq947
                          show own_Go _ _ _ _ _ (State.setTop _ (mkF _ 419 _ [(.double d947)]))
                          refine own_dload X947 hx 421 rfl (hb hby at_419) rfl ?_
                          refine own_dcmp X947 hx 422 rfl (hb hby at_421) (0 : Int32) (own_end fd947 zd947 hE hA hB hc.2.1 (own_p5 _ _ _)) ?_
                          refine own_ifNo X947 hx 425 rfl (hb hby at_422) (by decide) ?_
                          refine own_iconst X947 hx 426 rfl (hb hby at_425) (1 : Int32) rfl ?_
                          refine own_goto X947 hx 430 (hb hby at_426) (by decide) rfl ?_
                          refine own_ret X947 (some (.int (1 : Int32))) (fun h => by rw [Bd.returns] at h; cases h) Bd.notSynchronized (by decide) (by decide) ?_ (fun fs hr => retN X947 hx (t := .boolean) Bd.returns (by simp) (hb hby at_430) hr)
                          show Q_rm0 Z i0 i1 i2 i3 i4 h0 n0 _ T947.heap _
                          rw [e947]
                          exact ⟨rfl, N948⟩
              ·
                refine own_ifYes X0 hx 179 (hb hby at_165) ((if0 _ _).trans (feq hc428).2) (by decide) rfl ?_
                have J204 : ∀ (sg : Int64), ((0 < own_z c1 ∧ sg.toInt = 1) ∨ (own_z c1 < 0 ∧ sg.toInt = -1) ∨ (own_z c1 = 0 ∧ sg.toInt = 0)) → own_Go p e below (fun o u L => FrameEnd s o u L room_1.cells room_1.slots) (Q_rm0 Z i0 i1 i2 i3 i4 h0 n0) (s₁.setTop (mkF m 204 #[.val (.int i0), .val (.int i1), .val (.int i2), .val (.int i3), .val (.int i4), .val (.int (own_sa i3)), .val (.int (own_sb i3)), .val (.int (own_tt i3)), .val (.int f0), .val (.int f1), .val (.int f2), .val (.int (own_pm i4)), .val (.long (own_A i0 (own_sa i3))), .second, .val (.long (own_A i1 (own_sb i3))), .second, .val (.double (own_x0 i0 i3)), .second, .val (.double (own_x1 i1 i3)), .second, .val (.double (own_x2 i2 i3)), .second, .val (.long (a1 + b1)), .second, .val (.double c1), .second, .unset, .unset, .unset, .unset, .unset, .unset, .unset, .unset] [(.long sg)])) := by
                  intro sg hs
                  have hE := own_inexact hI hc428 hc.2.2 hs
                  show own_Go _ _ _ _ _ (State.setTop _ (mkF _ 204 _ [(.long sg)]))
                  refine own_lstore X0 hx 206 rfl (hb hby at_204) #[.val (.int i0), .val (.int i1), .val (.int i2), .val (.int i3), .val (.int i4), .val (.int (own_sa i3)), .val (.int (own_sb i3)), .val (.int (own_tt i3)), .val (.int f0), .val (.int f1), .val (.int f2), .val (.int (own_pm i4)), .val (.long (own_A i0 (own_sa i3))), .second, .val (.long (own_A i1 (own_sb i3))), .second, .val (.double (own_x0 i0 i3)), .second, .val (.double (own_x1 i1 i3)), .second, .val (.double (own_x2 i2 i3)), .second, .val (.long (a1 + b1)), .second, .val (.double c1), .second, .unset, .unset, .val (.long sg), .second, .unset, .unset, .unset, .unset] rfl ?_
                  refine own_ldcJ X0 hx hZ hown (own_hw hw 41 rfl) 209 rfl (hb hby at_206) ?_
                  refine own_lload X0 hx 211 rfl (hb hby at_209) rfl ?_
                  refine own_lmul X0 hx 212 rfl (hb hby at_211) _ rfl ?_
                  refine own_lload X0 hx 214 rfl (hb hby at_212) rfl ?_
                  refine own_ladd X0 hx 215 rfl (hb hby at_214) _ rfl ?_
                  refine own_l2d X0 hx 216 rfl (hb hby at_215) _ rfl ?_
                  refine own_ldcD X0 hx hZ hown (own_hw hw 42 rfl) 219 rfl (hb hby at_216) ?_
                  refine own_dmul X0 hx 220 rfl (hb hby at_219) (own_nf hE.1) _ rfl ?_
                  refine own_dstore X0 hx 222 rfl (hb hby at_220) #[.val (.int i0), .val (.int i1), .val (.int i2), .val (.int i3), .val (.int i4), .val (.int (own_sa i3)), .val (.int (own_sb i3)), .val (.int (own_tt i3)), .val (.int f0), .val (.int f1), .val (.int f2), .val (.int (own_pm i4)), .val (.long (own_A i0 (own_sa i3))), .second, .val (.long (own_A i1 (own_sb i3))), .second, .val (.double (own_x0 i0 i3)), .second, .val (.double (own_x1 i1 i3)), .second, .val (.double (own_x2 i2 i3)), .second, .val (.long (a1 + b1)), .second, .val (.double c1), .second, .val (.double (FP.dmul (FP.l2d (((2 : Int64) * (a1 + b1)) + sg)) (4602678819172646912 : UInt64))), .second, .val (.long sg), .second, .unset, .unset, .unset, .unset] rfl ?_
                  refine own_iconst X0 hx 223 rfl (hb hby at_222) (3 : Int32) rfl ?_
                  refine own_newA X0 hx hZ (own_hw hw 0 rfl) e0 225 rfl (hb hby at_223) (by decide) 3 (by decide) (by decide) (by decide) (by decide) "[D" (by decide) fun T949 h949 k949 b949 g949 X949 e949 E949 A949 C949 => ?_
                  have ge950 : n0 ≤ b949 := Nat.le_trans Z0 (Nat.le_of_eq g949.symm)
                  have z951 := Nat.le_trans Z0 E949.1
                  have f952 : Arv Z h949 b949 k949 .double (3 : Int32) [(.double (0 : UInt64)), (.double (0 : UInt64)), (.double (0 : UInt64))] (.double (0 : UInt64)) := (Arv.new A949 (by decide)).pad (pad_rep [] (.double (0 : UInt64)) 3)
                  refine own_dup X949 hx 226 rfl (hb hby at_225) rfl ?_
                  refine own_iconst X949 hx 227 rfl (hb hby at_226) (0 : Int32) rfl ?_
                  refine own_dload X949 hx 229 rfl (hb hby at_227) rfl ?_
                  refine own_stD X949 hx hZ e949 f952 ⟨by decide, by decide⟩ 0 rfl (Nat.le_of_ble_eq_true rfl) [(.double (own_x0 i0 i3)), (.double (0 : UInt64)), (.double (0 : UInt64))] rfl 230 rfl (hb hby at_229) fun T953 h953 X953 e953 W953 f954 => ?_
                  have f955 := C949.wr W953
                  have z956 := Nat.le_trans z951 (Keep.of_wr W953).1
                  have N957 := Fr.snoc X953 N0 ge950
                  refine own_dup X953 hx 231 rfl (hb hby at_230) rfl ?_
                  refine own_iconst X953 hx 232 rfl (hb hby at_231) (1 : Int32) rfl ?_
                  refine own_dload X953 hx 234 rfl (hb hby at_232) rfl ?_
                  refine own_stD X953 hx hZ e953 f954 ⟨by decide, by decide⟩ 1 rfl (Nat.le_of_ble_eq_true rfl) [(.double (own_x0 i0 i3)), (.double (own_x1 i1 i3)), (.double (0 : UInt64))] rfl 235 rfl (hb hby at_234) fun T958 h958 X958 e958 W958 f959 => ?_
                  have f960 := f955.wr W958
                  have z961 := Nat.le_trans z956 (Keep.of_wr W958).1
                  have N962 := Fr.snoc X958 N957 ge950
                  refine own_dup X958 hx 236 rfl (hb hby at_235) rfl ?_
                  refine own_iconst X958 hx 237 rfl (hb hby at_236) (2 : Int32) rfl ?_
                  refine own_dload X958 hx 239 rfl (hb hby at_237) rfl ?_
                  refine own_stD X958 hx hZ e958 f959 ⟨by decide, by decide⟩ 2 rfl (Nat.le_of_ble_eq_true rfl) [(.double (own_x0 i0 i3)), (.double (own_x1 i1 i3)), (.double (own_x2 i2 i3))] rfl 240 rfl (hb hby at_239) fun T963 h963 X963 e963 W963 f964 => ?_
                  have f965 := f960.wr W963
                  have z966 := Nat.le_trans z961 (Keep.of_wr W963).1
                  have N967 := Fr.snoc X963 N962 ge950
                  refine own_astore X963 hx 242 rfl (hb hby at_240) rfl #[.val (.int i0), .val (.int i1), .val (.int i2), .val (.int i3), .val (.int i4), .val (.int (own_sa i3)), .val (.int (own_sb i3)), .val (.int (own_tt i3)), .val (.int f0), .val (.int f1), .val (.int f2), .val (.int (own_pm i4)), .val (.long (own_A i0 (own_sa i3))), .second, .val (.long (own_A i1 (own_sb i3))), .second, .val (.double (own_x0 i0 i3)), .second, .val (.double (own_x1 i1 i3)), .second, .val (.double (own_x2 i2 i3)), .second, .val (.long (a1 + b1)), .second, .val (.double c1), .second, .val (.double (FP.dmul (FP.l2d (((2 : Int64) * (a1 + b1)) + sg)) (4602678819172646912 : UInt64))), .second, .val (.ref b949), .unset, .unset, .unset, .unset, .unset] rfl ?_
                  refine own_iconst X963 hx 243 rfl (hb hby at_242) (3 : Int32) rfl ?_
                  refine own_newA X963 hx hZ (own_hw hw 1 rfl) e963 245 rfl (hb hby at_243) (by decide) 3 (by decide) (by decide) (by decide) (by decide) "[Z" (by decide) fun T968 h968 k968 b968 g968 X968 e968 E968 A968 C968 => ?_
                  have ne969 : b949 ≠ b968 := Nat.ne_of_lt (Nat.lt_of_lt_of_le f965.lt (Nat.le_of_eq g968.symm))
                  have ge970 : n0 ≤ b968 := Nat.le_trans z966 (Nat.le_of_eq g968.symm)
                  have f971 := f965.ext E968
                  have f972 := f964.ext E968
                  have z973 := Nat.le_trans z966 E968.1
                  have f974 : Arv Z h968 b968 k968 .boolean (3 : Int32) [(.int (0 : Int32)), (.int (0 : Int32)), (.int (0 : Int32))] (.int (0 : Int32)) := (Arv.new A968 (by decide)).pad (pad_rep [] (.int (0 : Int32)) 3)
                  refine own_dup X968 hx 246 rfl (hb hby at_245) rfl ?_
                  refine own_iconst X968 hx 247 rfl (hb hby at_246) (0 : Int32) rfl ?_
                  refine own_iload X968 hx 249 rfl (hb hby at_247) rfl ?_
                  refine own_stZ X968 hx hZ e968 f974 ⟨by decide, by decide⟩ 0 rfl (Nat.le_of_ble_eq_true rfl) [(.int (nar .boolean f0)), (.int (0 : Int32)), (.int (0 : Int32))] rfl 250 rfl (hb hby at_249) fun T975 h975 X975 e975 W975 f976 => ?_
                  have f977 := f971.wr W975
                  have f978 := f972.other W975 ne969
                  have f979 := C968.wr W975
                  have z980 := Nat.le_trans z973 (Keep.of_wr W975).1
                  have N981 := Fr.snoc X975 N967 ge970
                  refine own_dup X975 hx 251 rfl (hb hby at_250) rfl ?_
                  refine own_iconst X975 hx 252 rfl (hb hby at_251) (1 : Int32) rfl ?_
                  refine own_iload X975 hx 254 rfl (hb hby at_252) rfl ?_
                  refine own_stZ X975 hx hZ e975 f976 ⟨by decide, by decide⟩ 1 rfl (Nat.le_of_ble_eq_true rfl) [(.int (nar .boolean f0)), (.int (nar .boolean f1)), (.int (0 : Int32))] rfl 255 rfl (hb hby at_254) fun T982 h982 X982 e982 W982 f983 => ?_
                  have f984 := f977.wr W982
                  have f985 := f978.other W982 ne969
                  have f986 := f979.wr W982
                  have z987 := Nat.le_trans z980 (Keep.of_wr W982).1
                  have N988 := Fr.snoc X982 N981 ge970
                  refine own_dup X982 hx 256 rfl (hb hby at_255) rfl ?_
                  refine own_iconst X982 hx 257 rfl (hb hby at_256) (2 : Int32) rfl ?_
                  refine own_iload X982 hx 259 rfl (hb hby at_257) rfl ?_
                  refine own_stZ X982 hx hZ e982 f983 ⟨by decide, by decide⟩ 2 rfl (Nat.le_of_ble_eq_true rfl) [(.int (nar .boolean f0)), (.int (nar .boolean f1)), (.int (nar .boolean f2))] rfl 260 rfl (hb hby at_259) fun T989 h989 X989 e989 W989 f990 => ?_
                  have f991 := f984.wr W989
                  have f992 := f985.other W989 ne969
                  have f993 := f986.wr W989
                  have z994 := Nat.le_trans z987 (Keep.of_wr W989).1
                  have N995 := Fr.snoc X989 N988 ge970
                  refine own_astore X989 hx 262 rfl (hb hby at_260) rfl #[.val (.int i0), .val (.int i1), .val (.int i2), .val (.int i3), .val (.int i4), .val (.int (own_sa i3)), .val (.int (own_sb i3)), .val (.int (own_tt i3)), .val (.int f0), .val (.int f1), .val (.int f2), .val (.int (own_pm i4)), .val (.long (own_A i0 (own_sa i3))), .second, .val (.long (own_A i1 (own_sb i3))), .second, .val (.double (own_x0 i0 i3)), .second, .val (.double (own_x1 i1 i3)), .second, .val (.double (own_x2 i2 i3)), .second, .val (.long (a1 + b1)), .second, .val (.double c1), .second, .val (.double (FP.dmul (FP.l2d (((2 : Int64) * (a1 + b1)) + sg)) (4602678819172646912 : UInt64))), .second, .val (.ref b949), .val (.ref b968), .unset, .unset, .unset, .unset] rfl ?_
                  refine own_iload X989 hx 264 rfl (hb hby at_262) rfl ?_
                  by_cases hc996 : own_pm i4 = (0 : Int32)
                  ·
                    refine own_ifNo X989 hx 267 rfl (hb hby at_264) ((if0 _ _).trans (teq hc996).2) ?_
                    refine own_iconst X989 hx 268 rfl (hb hby at_267) (0 : Int32) rfl ?_
                    refine own_istore X989 hx 270 rfl (hb hby at_268) #[.val (.int i0), .val (.int i1), .val (.int i2), .val (.int i3), .val (.int i4), .val (.int (own_sa i3)), .val (.int (own_sb i3)), .val (.int (own_tt i3)), .val (.int f0), .val (.int f1), .val (.int f2), .val (.int (own_pm i4)), .val (.long (own_A i0 (own_sa i3))), .second, .val (.long (own_A i1 (own_sb i3))), .second, .val (.double (own_x0 i0 i3)), .second, .val (.double (own_x1 i1 i3)), .second, .val (.double (own_x2 i2 i3)), .second, .val (.long (a1 + b1)), .second, .val (.double c1), .second, .val (.double (FP.dmul (FP.l2d (((2 : Int64) * (a1 + b1)) + sg)) (4602678819172646912 : UInt64))), .second, .val (.ref b949), .val (.ref b968), .val (.int (0 : Int32)), .unset, .unset, .unset] rfl ?_
                    refine own_iconst X989 hx 271 rfl (hb hby at_270) (1 : Int32) rfl ?_
                    refine own_istore X989 hx 273 rfl (hb hby at_271) #[.val (.int i0), .val (.int i1), .val (.int i2), .val (.int i3), .val (.int i4), .val (.int (own_sa i3)), .val (.int (own_sb i3)), .val (.int (own_tt i3)), .val (.int f0), .val (.int f1), .val (.int f2), .val (.int (own_pm i4)), .val (.long (own_A i0 (own_sa i3))), .second, .val (.long (own_A i1 (own_sb i3))), .second, .val (.double (own_x0 i0 i3)), .second, .val (.double (own_x1 i1 i3)), .second, .val (.double (own_x2 i2 i3)), .second, .val (.long (a1 + b1)), .second, .val (.double c1), .second, .val (.double (FP.dmul (FP.l2d (((2 : Int64) * (a1 + b1)) + sg)) (4602678819172646912 : UInt64))), .second, .val (.ref b949), .val (.ref b968), .val (.int (0 : Int32)), .val (.int (1 : Int32)), .unset, .unset] rfl ?_
                    refine own_iconst X989 hx 274 rfl (hb hby at_273) (2 : Int32) rfl ?_
                    refine own_istore X989 hx 276 rfl (hb hby at_274) #[.val (.int i0), .val (.int i1), .val (.int i2), .val (.int i3), .val (.int i4), .val (.int (own_sa i3)), .val (.int (own_sb i3)), .val (.int (own_tt i3)), .val (.int f0), .val (.int f1), .val (.int f2), .val (.int (own_pm i4)), .val (.long (own_A i0 (own_sa i3))), .second, .val (.long (own_A i1 (own_sb i3))), .second, .val (.double (own_x0 i0 i3)), .second, .val (.double (own_x1 i1 i3)), .second, .val (.double (own_x2 i2 i3)), .second, .val (.long (a1 + b1)), .second, .val (.double c1), .second, .val (.double (FP.dmul (FP.l2d (((2 : Int64) * (a1 + b1)) + sg)) (4602678819172646912 : UInt64))), .second, .val (.ref b949), .val (.ref b968), .val (.int (0 : Int32)), .val (.int (1 : Int32)), .val (.int (2 : Int32)), .unset] rfl ?_
                    refine own_goto X989 hx 360 (hb hby at_276) (by decide) rfl ?_
                    refine own_new X989 hx hZ hown (own_hw hw 2 rfl) (own_hw hw 3 rfl) (own_hw hw 4 rfl) e989 363 rfl (hb hby at_360) (by decide) (by decide) fun T997 h997 b997 g997 X997 e997 E997 A997 D997 => ?_
                    have ne998 : b949 ≠ b997 := Nat.ne_of_lt (Nat.lt_of_lt_of_le f991.lt (Nat.le_of_eq g997.symm))
                    have ne999 : b968 ≠ b997 := Nat.ne_of_lt (Nat.lt_of_lt_of_le f993.lt (Nat.le_of_eq g997.symm))
                    have ge1000 : n0 ≤ b997 := Nat.le_trans z994 (Nat.le_of_eq g997.symm)
                    have f1001 := f991.ext E997
                    have f1002 := f992.ext E997
                    have f1003 := f993.ext E997
                    have f1004 := f990.ext E997
                    have z1005 := Nat.le_trans z994 E997.1
                    have f1006 : Fld Z h997 b997 "com/example/outpost/outpost/service/split/ExactSum" "parts" "[D" .null := D997 (Or.inl (own_hw hw 12 rfl)) (ty := (.array .double)) (by decide)
                    have f1007 : Fld Z h997 b997 "com/example/outpost/outpost/service/split/ExactSum" "scratch" "[D" .null := D997 (Or.inl (own_hw hw 14 rfl)) (ty := (.array .double)) (by decide)
                    have f1008 : Fld Z h997 b997 "com/example/outpost/outpost/service/split/ExactSum" "count" "I" (.int (0 : Int32)) := D997 (Or.inl (own_hw hw 25 rfl)) (ty := .int) (by decide)
                    refine own_dup X997 hx 364 rfl (hb hby at_363) rfl ?_
                    refine own_special X997 hx hZ (y := (⟨"com/example/outpost/outpost/service/split/ExactSum", "<init>", "()V"⟩ : MethodName)) hown rfl (own_hw hw 5 rfl) (own_hw hw 6 rfl) (a := b997) (by decide) rfl (rm_init l Z a0 hw [] b997 h997 n0 z1005 A997 f1006 f1008 f1007 ge1000) (own_hw hw 7 rfl) (own_hw hw 4 rfl) (by decide) e997 (by rw [hml]; rfl) [] 1 (by decide) (Nat.le_of_eq rfl) (by decide) (by decide) (lenOf own_pd3 rfl) rfl rfl 367 rfl (hb hby at_364) fun v1009 T1009 Lc1009 X1009 hQ1009 => ?_
                    obtain ⟨rfl, Nq1009, Kq1009, a1009, k1009, sz1009, f1010, f1011, f1012, f1013⟩ := hQ1009
                    have N1014 := Fr.app N995 Nq1009
                    have ne1015 : b949 ≠ a1009 := Nat.ne_of_lt (Nat.lt_of_lt_of_le f1001.lt sz1009)
                    have ne1016 : b968 ≠ a1009 := Nat.ne_of_lt (Nat.lt_of_lt_of_le f1003.lt sz1009)
                    have ne1017 : b997 ≠ a1009 := Nat.ne_of_lt (Nat.lt_of_lt_of_le A997.lt sz1009)
                    have ge1018 : n0 ≤ a1009 := Nat.le_trans z1005 sz1009
                    have f1019 := f1001.keep Kq1009
                    have f1020 := f1002.keep Kq1009 (ninS ne998 nin0)
                    have f1021 := f1003.keep Kq1009
                    have f1022 := f1004.keep Kq1009 (ninS ne999 nin0)
                    have f1023 := A997.keep Kq1009
                    have z1027 := Nat.le_trans z1005 Kq1009.1
                    show own_Go _ _ _ _ _ (State.setTop _ (mkF _ 367 _ [(.ref b997)]))
                    refine own_astore X1009 hx 369 rfl (hb hby at_367) rfl #[.val (.int i0), .val (.int i1), .val (.int i2), .val (.int i3), .val (.int i4), .val (.int (own_sa i3)), .val (.int (own_sb i3)), .val (.int (own_tt i3)), .val (.int f0), .val (.int f1), .val (.int f2), .val (.int (own_pm i4)), .val (.long (own_A i0 (own_sa i3))), .second, .val (.long (own_A i1 (own_sb i3))), .second, .val (.double (own_x0 i0 i3)), .second, .val (.double (own_x1 i1 i3)), .second, .val (.double (own_x2 i2 i3)), .second, .val (.long (a1 + b1)), .second, .val (.double c1), .second, .val (.double (FP.dmul (FP.l2d (((2 : Int64) * (a1 + b1)) + sg)) (4602678819172646912 : UInt64))), .second, .val (.ref b949), .val (.ref b968), .val (.int (0 : Int32)), .val (.int (1 : Int32)), .val (.int (2 : Int32)), .val (.ref b997)] rfl ?_
                    refine own_aload X1009 hx 371 rfl (hb hby at_369) rfl rfl ?_
                    refine own_aload X1009 hx 373 rfl (hb hby at_371) rfl rfl ?_
                    refine own_iload X1009 hx 375 rfl (hb hby at_373) rfl ?_
                    refine own_ldZ X1009 hx hZ rfl f1022 ⟨by decide, by decide⟩ f0 (congrArg Value.int (own_nar hf0)) 376 rfl (hb hby at_375) ?_
                    refine own_aload X1009 hx 378 rfl (hb hby at_376) rfl rfl ?_
                    refine own_iload X1009 hx 380 rfl (hb hby at_378) rfl ?_
                    refine own_ldD X1009 hx hZ rfl f1020 ⟨by decide, by decide⟩ (own_x0 i0 i3) rfl 381 rfl (hb hby at_380) ?_
                    refine own_callS X1009 hx hZ (y := (⟨"com/example/outpost/outpost/service/split/ExactSumRoundedPinLaw", "addIf", "(Lcom/example/outpost/outpost/service/split/ExactSum;ZD)V"⟩ : MethodName)) hown (own_hw hw 15 rfl) (own_hw hw 16 rfl) (by decide) (rm_if0 l Z a0 hw [] b997 f0 (own_x0 i0 i3) a1009 k1009 (0 : Int32) (0 : UInt64) (0 : UInt64) (0 : UInt64) (0 : UInt64) (0 : Int) T1009.heap n0 z1027 f1010 f1011 f1012 f1013 ge1000 ge1018 ne1017 (own_x0_f i0 i3) (own_x0_b i0 i3) ⟨rfl, rfl⟩ own_bt0) (own_hw hw 18 rfl) (own_hw hw 17 rfl) (by decide) rfl (by rw [hml]; rfl) [(.ref b997), (.int f0), (.double (own_x0 i0 i3))] 0 (by decide) (Nat.le_of_eq rfl) (by decide) (by decide) (lenOf own_pd4 rfl) rfl rfl 384 rfl (hb hby at_381) fun v1028 T1028 Lc1028 X1028 hQ1028 => ?_
                    obtain ⟨rfl, Nq1028, Kq1028, c1028, r01028, r11028, r21028, f1029, f1030, f1031, f1032, P1028⟩ := hQ1028
                    have N1033 := Fr.app N1014 Nq1028
                    have f1034 := f1019.keep Kq1028
                    have f1035 := f1020.keep Kq1028 (ninS ne998 (ninS ne1015 nin0))
                    have f1036 := f1021.keep Kq1028
                    have f1037 := f1022.keep Kq1028 (ninS ne999 (ninS ne1016 nin0))
                    have f1038 := f1010.keep Kq1028
                    have z1042 := Nat.le_trans z1027 Kq1028.1
                    show own_Go _ _ _ _ _ (State.setTop _ (mkF _ 384 _ []))
                    refine own_aload X1028 hx 386 rfl (hb hby at_384) rfl rfl ?_
                    refine own_aload X1028 hx 388 rfl (hb hby at_386) rfl rfl ?_
                    refine own_iload X1028 hx 390 rfl (hb hby at_388) rfl ?_
                    refine own_ldZ X1028 hx hZ rfl f1037 ⟨by decide, by decide⟩ f1 (congrArg Value.int (own_nar hf1)) 391 rfl (hb hby at_390) ?_
                    refine own_aload X1028 hx 393 rfl (hb hby at_391) rfl rfl ?_
                    refine own_iload X1028 hx 395 rfl (hb hby at_393) rfl ?_
                    refine own_ldD X1028 hx hZ rfl f1035 ⟨by decide, by decide⟩ (own_x1 i1 i3) rfl 396 rfl (hb hby at_395) ?_
                    refine own_callS X1028 hx hZ (y := (⟨"com/example/outpost/outpost/service/split/ExactSumRoundedPinLaw", "addIf", "(Lcom/example/outpost/outpost/service/split/ExactSum;ZD)V"⟩ : MethodName)) hown (own_hw hw 15 rfl) (own_hw hw 16 rfl) (by decide) (rm_if1 l Z a0 hw [] b997 f1 (own_x1 i1 i3) a1009 k1009 c1028 r01028 r11028 r21028 (0 : UInt64) ((0 : Int) + (own_t f0 (own_x0 i0 i3))) T1028.heap n0 z1042 f1029 f1030 f1031 f1032 ge1000 ge1018 ne1017 (own_x1_f i1 i3) (own_x1_b i1 i3) P1028 (own_bt1 (own_tb f0 (own_x0_b i0 i3)))) (own_hw hw 18 rfl) (own_hw hw 17 rfl) (by decide) rfl (by rw [hml]; rfl) [(.ref b997), (.int f1), (.double (own_x1 i1 i3))] 0 (by decide) (Nat.le_of_eq rfl) (by decide) (by decide) (lenOf own_pd4 rfl) rfl rfl 399 rfl (hb hby at_396) fun v1043 T1043 Lc1043 X1043 hQ1043 => ?_
                    obtain ⟨rfl, Nq1043, Kq1043, c1043, r01043, r11043, r21043, f1044, f1045, f1046, f1047, P1043⟩ := hQ1043
                    have N1048 := Fr.app N1033 Nq1043
                    have f1049 := f1034.keep Kq1043
                    have f1050 := f1035.keep Kq1043 (ninS ne998 (ninS ne1015 nin0))
                    have f1051 := f1036.keep Kq1043
                    have f1052 := f1037.keep Kq1043 (ninS ne999 (ninS ne1016 nin0))
                    have f1053 := f1029.keep Kq1043
                    have z1057 := Nat.le_trans z1042 Kq1043.1
                    show own_Go _ _ _ _ _ (State.setTop _ (mkF _ 399 _ []))
                    refine own_aload X1043 hx 401 rfl (hb hby at_399) rfl rfl ?_
                    refine own_aload X1043 hx 403 rfl (hb hby at_401) rfl rfl ?_
                    refine own_iload X1043 hx 405 rfl (hb hby at_403) rfl ?_
                    refine own_ldZ X1043 hx hZ rfl f1052 ⟨by decide, by decide⟩ f2 (congrArg Value.int (own_nar hf2)) 406 rfl (hb hby at_405) ?_
                    refine own_aload X1043 hx 408 rfl (hb hby at_406) rfl rfl ?_
                    refine own_iload X1043 hx 410 rfl (hb hby at_408) rfl ?_
                    refine own_ldD X1043 hx hZ rfl f1050 ⟨by decide, by decide⟩ (own_x2 i2 i3) rfl 411 rfl (hb hby at_410) ?_
                    refine own_callS X1043 hx hZ (y := (⟨"com/example/outpost/outpost/service/split/ExactSumRoundedPinLaw", "addIf", "(Lcom/example/outpost/outpost/service/split/ExactSum;ZD)V"⟩ : MethodName)) hown (own_hw hw 15 rfl) (own_hw hw 16 rfl) (by decide) (rm_if2 l Z a0 hw [] b997 f2 (own_x2 i2 i3) a1009 k1009 c1043 r01043 r11043 r21043 (0 : UInt64) (((0 : Int) + (own_t f0 (own_x0 i0 i3))) + (own_t f1 (own_x1 i1 i3))) T1043.heap n0 z1057 f1044 f1045 f1046 f1047 ge1000 ge1018 ne1017 (own_x2_f i2 i3) (own_x2_b i2 i3) P1043 (own_bt2 (own_tb f0 (own_x0_b i0 i3)) (own_tb f1 (own_x1_b i1 i3)))) (own_hw hw 18 rfl) (own_hw hw 17 rfl) (by decide) rfl (by rw [hml]; rfl) [(.ref b997), (.int f2), (.double (own_x2 i2 i3))] 0 (by decide) (Nat.le_of_eq rfl) (by decide) (by decide) (lenOf own_pd4 rfl) rfl rfl 414 rfl (hb hby at_411) fun v1058 T1058 Lc1058 X1058 hQ1058 => ?_
                    obtain ⟨rfl, Nq1058, Kq1058, c1058, r01058, r11058, r21058, f1059, f1060, f1061, f1062, P1058⟩ := hQ1058
                    have N1063 := Fr.app N1048 Nq1058
                    have f1064 := f1049.keep Kq1058
                    have f1065 := f1050.keep Kq1058 (ninS ne998 (ninS ne1015 nin0))
                    have f1066 := f1051.keep Kq1058
                    have f1067 := f1052.keep Kq1058 (ninS ne999 (ninS ne1016 nin0))
                    have f1068 := f1044.keep Kq1058
                    have z1072 := Nat.le_trans z1057 Kq1058.1
                    show own_Go _ _ _ _ _ (State.setTop _ (mkF _ 414 _ []))
                    refine own_aload X1058 hx 416 rfl (hb hby at_414) rfl rfl ?_
                    refine own_virtual X1058 hx hZ (y := (⟨"com/example/outpost/outpost/service/split/ExactSum", "rounded", "()D"⟩ : MethodName)) (z := (⟨"com/example/outpost/outpost/service/split/ExactSum", "rounded", "()D"⟩ : MethodName)) hown (own_hw hw 19 rfl) (own_hw hw 20 rfl) (own_hw hw 22 rfl) (own_hw hw 21 rfl) rfl (a := b997) f1059 (by decide) (rm_rounded l Z a0 hw [] b997 a1009 k1009 c1058 r01058 r11058 r21058 (0 : UInt64) ((((0 : Int) + (own_t f0 (own_x0 i0 i3))) + (own_t f1 (own_x1 i1 i3))) + (own_t f2 (own_x2 i2 i3))) T1058.heap n0 z1072 f1060 f1061 f1062 P1058) (own_hw hw 23 rfl) (own_hw hw 4 rfl) (by decide) rfl (by rw [hml]; rfl) [] 0 (by decide) (Nat.le_of_eq rfl) (by decide) (by decide) (lenOf own_pd5 rfl) rfl rfl 419 rfl (hb hby at_416) fun v1073 T1073 Lc1073 X1073 hQ1073 => ?_
                    obtain ⟨d1073, rfl, Nq1073, e1073, fd1073, zd1073⟩ := hQ1073
                    have N1074 := Fr.app N1063 Nq1073
                    show own_Go _ _ _ _ _ (State.setTop _ (mkF _ 419 _ [(.double d1073)]))
                    refine own_dload X1073 hx 421 rfl (hb hby at_419) rfl ?_
                    refine own_dcmp X1073 hx 422 rfl (hb hby at_421) (0 : Int32) (own_end fd1073 zd1073 hE hA hB hc.2.1 (own_p0 _ _ _)) ?_
                    refine own_ifNo X1073 hx 425 rfl (hb hby at_422) (by decide) ?_
                    refine own_iconst X1073 hx 426 rfl (hb hby at_425) (1 : Int32) rfl ?_
                    refine own_goto X1073 hx 430 (hb hby at_426) (by decide) rfl ?_
                    refine own_ret X1073 (some (.int (1 : Int32))) (fun h => by rw [Bd.returns] at h; cases h) Bd.notSynchronized (by decide) (by decide) ?_ (fun fs hr => retN X1073 hx (t := .boolean) Bd.returns (by simp) (hb hby at_430) hr)
                    show Q_rm0 Z i0 i1 i2 i3 i4 h0 n0 _ T1073.heap _
                    rw [e1073]
                    exact ⟨rfl, N1074⟩
                  ·
                    refine own_ifYes X989 hx 279 (hb hby at_264) ((if0 _ _).trans (feq hc996).2) (by decide) rfl ?_
                    refine own_iload X989 hx 281 rfl (hb hby at_279) rfl ?_
                    refine own_iconst X989 hx 282 rfl (hb hby at_281) (1 : Int32) rfl ?_
                    by_cases hc1075 : own_pm i4 = (1 : Int32)
                    ·
                      refine own_icmpNo X989 hx 285 rfl (hb hby at_282) (teq hc1075).2 ?_
                      refine own_iconst X989 hx 286 rfl (hb hby at_285) (0 : Int32) rfl ?_
                      refine own_istore X989 hx 288 rfl (hb hby at_286) #[.val (.int i0), .val (.int i1), .val (.int i2), .val (.int i3), .val (.int i4), .val (.int (own_sa i3)), .val (.int (own_sb i3)), .val (.int (own_tt i3)), .val (.int f0), .val (.int f1), .val (.int f2), .val (.int (own_pm i4)), .val (.long (own_A i0 (own_sa i3))), .second, .val (.long (own_A i1 (own_sb i3))), .second, .val (.double (own_x0 i0 i3)), .second, .val (.double (own_x1 i1 i3)), .second, .val (.double (own_x2 i2 i3)), .second, .val (.long (a1 + b1)), .second, .val (.double c1), .second, .val (.double (FP.dmul (FP.l2d (((2 : Int64) * (a1 + b1)) + sg)) (4602678819172646912 : UInt64))), .second, .val (.ref b949), .val (.ref b968), .val (.int (0 : Int32)), .unset, .unset, .unset] rfl ?_
                      refine own_iconst X989 hx 289 rfl (hb hby at_288) (2 : Int32) rfl ?_
                      refine own_istore X989 hx 291 rfl (hb hby at_289) #[.val (.int i0), .val (.int i1), .val (.int i2), .val (.int i3), .val (.int i4), .val (.int (own_sa i3)), .val (.int (own_sb i3)), .val (.int (own_tt i3)), .val (.int f0), .val (.int f1), .val (.int f2), .val (.int (own_pm i4)), .val (.long (own_A i0 (own_sa i3))), .second, .val (.long (own_A i1 (own_sb i3))), .second, .val (.double (own_x0 i0 i3)), .second, .val (.double (own_x1 i1 i3)), .second, .val (.double (own_x2 i2 i3)), .second, .val (.long (a1 + b1)), .second, .val (.double c1), .second, .val (.double (FP.dmul (FP.l2d (((2 : Int64) * (a1 + b1)) + sg)) (4602678819172646912 : UInt64))), .second, .val (.ref b949), .val (.ref b968), .val (.int (0 : Int32)), .val (.int (2 : Int32)), .unset, .unset] rfl ?_
                      refine own_iconst X989 hx 292 rfl (hb hby at_291) (1 : Int32) rfl ?_
                      refine own_istore X989 hx 294 rfl (hb hby at_292) #[.val (.int i0), .val (.int i1), .val (.int i2), .val (.int i3), .val (.int i4), .val (.int (own_sa i3)), .val (.int (own_sb i3)), .val (.int (own_tt i3)), .val (.int f0), .val (.int f1), .val (.int f2), .val (.int (own_pm i4)), .val (.long (own_A i0 (own_sa i3))), .second, .val (.long (own_A i1 (own_sb i3))), .second, .val (.double (own_x0 i0 i3)), .second, .val (.double (own_x1 i1 i3)), .second, .val (.double (own_x2 i2 i3)), .second, .val (.long (a1 + b1)), .second, .val (.double c1), .second, .val (.double (FP.dmul (FP.l2d (((2 : Int64) * (a1 + b1)) + sg)) (4602678819172646912 : UInt64))), .second, .val (.ref b949), .val (.ref b968), .val (.int (0 : Int32)), .val (.int (2 : Int32)), .val (.int (1 : Int32)), .unset] rfl ?_
                      refine own_goto X989 hx 360 (hb hby at_294) (by decide) rfl ?_
                      refine own_new X989 hx hZ hown (own_hw hw 2 rfl) (own_hw hw 3 rfl) (own_hw hw 4 rfl) e989 363 rfl (hb hby at_360) (by decide) (by decide) fun T1076 h1076 b1076 g1076 X1076 e1076 E1076 A1076 D1076 => ?_
                      have ne1077 : b949 ≠ b1076 := Nat.ne_of_lt (Nat.lt_of_lt_of_le f991.lt (Nat.le_of_eq g1076.symm))
                      have ne1078 : b968 ≠ b1076 := Nat.ne_of_lt (Nat.lt_of_lt_of_le f993.lt (Nat.le_of_eq g1076.symm))
                      have ge1079 : n0 ≤ b1076 := Nat.le_trans z994 (Nat.le_of_eq g1076.symm)
                      have f1080 := f991.ext E1076
                      have f1081 := f992.ext E1076
                      have f1082 := f993.ext E1076
                      have f1083 := f990.ext E1076
                      have z1084 := Nat.le_trans z994 E1076.1
                      have f1085 : Fld Z h1076 b1076 "com/example/outpost/outpost/service/split/ExactSum" "parts" "[D" .null := D1076 (Or.inl (own_hw hw 12 rfl)) (ty := (.array .double)) (by decide)
                      have f1086 : Fld Z h1076 b1076 "com/example/outpost/outpost/service/split/ExactSum" "scratch" "[D" .null := D1076 (Or.inl (own_hw hw 14 rfl)) (ty := (.array .double)) (by decide)
                      have f1087 : Fld Z h1076 b1076 "com/example/outpost/outpost/service/split/ExactSum" "count" "I" (.int (0 : Int32)) := D1076 (Or.inl (own_hw hw 25 rfl)) (ty := .int) (by decide)
                      refine own_dup X1076 hx 364 rfl (hb hby at_363) rfl ?_
                      refine own_special X1076 hx hZ (y := (⟨"com/example/outpost/outpost/service/split/ExactSum", "<init>", "()V"⟩ : MethodName)) hown rfl (own_hw hw 5 rfl) (own_hw hw 6 rfl) (a := b1076) (by decide) rfl (rm_init l Z a0 hw [] b1076 h1076 n0 z1084 A1076 f1085 f1087 f1086 ge1079) (own_hw hw 7 rfl) (own_hw hw 4 rfl) (by decide) e1076 (by rw [hml]; rfl) [] 1 (by decide) (Nat.le_of_eq rfl) (by decide) (by decide) (lenOf own_pd3 rfl) rfl rfl 367 rfl (hb hby at_364) fun v1088 T1088 Lc1088 X1088 hQ1088 => ?_
                      obtain ⟨rfl, Nq1088, Kq1088, a1088, k1088, sz1088, f1089, f1090, f1091, f1092⟩ := hQ1088
                      have N1093 := Fr.app N995 Nq1088
                      have ne1094 : b949 ≠ a1088 := Nat.ne_of_lt (Nat.lt_of_lt_of_le f1080.lt sz1088)
                      have ne1095 : b968 ≠ a1088 := Nat.ne_of_lt (Nat.lt_of_lt_of_le f1082.lt sz1088)
                      have ne1096 : b1076 ≠ a1088 := Nat.ne_of_lt (Nat.lt_of_lt_of_le A1076.lt sz1088)
                      have ge1097 : n0 ≤ a1088 := Nat.le_trans z1084 sz1088
                      have f1098 := f1080.keep Kq1088
                      have f1099 := f1081.keep Kq1088 (ninS ne1077 nin0)
                      have f1100 := f1082.keep Kq1088
                      have f1101 := f1083.keep Kq1088 (ninS ne1078 nin0)
                      have f1102 := A1076.keep Kq1088
                      have z1106 := Nat.le_trans z1084 Kq1088.1
                      show own_Go _ _ _ _ _ (State.setTop _ (mkF _ 367 _ [(.ref b1076)]))
                      refine own_astore X1088 hx 369 rfl (hb hby at_367) rfl #[.val (.int i0), .val (.int i1), .val (.int i2), .val (.int i3), .val (.int i4), .val (.int (own_sa i3)), .val (.int (own_sb i3)), .val (.int (own_tt i3)), .val (.int f0), .val (.int f1), .val (.int f2), .val (.int (own_pm i4)), .val (.long (own_A i0 (own_sa i3))), .second, .val (.long (own_A i1 (own_sb i3))), .second, .val (.double (own_x0 i0 i3)), .second, .val (.double (own_x1 i1 i3)), .second, .val (.double (own_x2 i2 i3)), .second, .val (.long (a1 + b1)), .second, .val (.double c1), .second, .val (.double (FP.dmul (FP.l2d (((2 : Int64) * (a1 + b1)) + sg)) (4602678819172646912 : UInt64))), .second, .val (.ref b949), .val (.ref b968), .val (.int (0 : Int32)), .val (.int (2 : Int32)), .val (.int (1 : Int32)), .val (.ref b1076)] rfl ?_
                      refine own_aload X1088 hx 371 rfl (hb hby at_369) rfl rfl ?_
                      refine own_aload X1088 hx 373 rfl (hb hby at_371) rfl rfl ?_
                      refine own_iload X1088 hx 375 rfl (hb hby at_373) rfl ?_
                      refine own_ldZ X1088 hx hZ rfl f1101 ⟨by decide, by decide⟩ f0 (congrArg Value.int (own_nar hf0)) 376 rfl (hb hby at_375) ?_
                      refine own_aload X1088 hx 378 rfl (hb hby at_376) rfl rfl ?_
                      refine own_iload X1088 hx 380 rfl (hb hby at_378) rfl ?_
                      refine own_ldD X1088 hx hZ rfl f1099 ⟨by decide, by decide⟩ (own_x0 i0 i3) rfl 381 rfl (hb hby at_380) ?_
                      refine own_callS X1088 hx hZ (y := (⟨"com/example/outpost/outpost/service/split/ExactSumRoundedPinLaw", "addIf", "(Lcom/example/outpost/outpost/service/split/ExactSum;ZD)V"⟩ : MethodName)) hown (own_hw hw 15 rfl) (own_hw hw 16 rfl) (by decide) (rm_if0 l Z a0 hw [] b1076 f0 (own_x0 i0 i3) a1088 k1088 (0 : Int32) (0 : UInt64) (0 : UInt64) (0 : UInt64) (0 : UInt64) (0 : Int) T1088.heap n0 z1106 f1089 f1090 f1091 f1092 ge1079 ge1097 ne1096 (own_x0_f i0 i3) (own_x0_b i0 i3) ⟨rfl, rfl⟩ own_bt0) (own_hw hw 18 rfl) (own_hw hw 17 rfl) (by decide) rfl (by rw [hml]; rfl) [(.ref b1076), (.int f0), (.double (own_x0 i0 i3))] 0 (by decide) (Nat.le_of_eq rfl) (by decide) (by decide) (lenOf own_pd4 rfl) rfl rfl 384 rfl (hb hby at_381) fun v1107 T1107 Lc1107 X1107 hQ1107 => ?_
                      obtain ⟨rfl, Nq1107, Kq1107, c1107, r01107, r11107, r21107, f1108, f1109, f1110, f1111, P1107⟩ := hQ1107
                      have N1112 := Fr.app N1093 Nq1107
                      have f1113 := f1098.keep Kq1107
                      have f1114 := f1099.keep Kq1107 (ninS ne1077 (ninS ne1094 nin0))
                      have f1115 := f1100.keep Kq1107
                      have f1116 := f1101.keep Kq1107 (ninS ne1078 (ninS ne1095 nin0))
                      have f1117 := f1089.keep Kq1107
                      have z1121 := Nat.le_trans z1106 Kq1107.1
                      show own_Go _ _ _ _ _ (State.setTop _ (mkF _ 384 _ []))
                      refine own_aload X1107 hx 386 rfl (hb hby at_384) rfl rfl ?_
                      refine own_aload X1107 hx 388 rfl (hb hby at_386) rfl rfl ?_
                      refine own_iload X1107 hx 390 rfl (hb hby at_388) rfl ?_
                      refine own_ldZ X1107 hx hZ rfl f1116 ⟨by decide, by decide⟩ f2 (congrArg Value.int (own_nar hf2)) 391 rfl (hb hby at_390) ?_
                      refine own_aload X1107 hx 393 rfl (hb hby at_391) rfl rfl ?_
                      refine own_iload X1107 hx 395 rfl (hb hby at_393) rfl ?_
                      refine own_ldD X1107 hx hZ rfl f1114 ⟨by decide, by decide⟩ (own_x2 i2 i3) rfl 396 rfl (hb hby at_395) ?_
                      refine own_callS X1107 hx hZ (y := (⟨"com/example/outpost/outpost/service/split/ExactSumRoundedPinLaw", "addIf", "(Lcom/example/outpost/outpost/service/split/ExactSum;ZD)V"⟩ : MethodName)) hown (own_hw hw 15 rfl) (own_hw hw 16 rfl) (by decide) (rm_if1 l Z a0 hw [] b1076 f2 (own_x2 i2 i3) a1088 k1088 c1107 r01107 r11107 r21107 (0 : UInt64) ((0 : Int) + (own_t f0 (own_x0 i0 i3))) T1107.heap n0 z1121 f1108 f1109 f1110 f1111 ge1079 ge1097 ne1096 (own_x2_f i2 i3) (own_x2_b i2 i3) P1107 (own_bt1 (own_tb f0 (own_x0_b i0 i3)))) (own_hw hw 18 rfl) (own_hw hw 17 rfl) (by decide) rfl (by rw [hml]; rfl) [(.ref b1076), (.int f2), (.double (own_x2 i2 i3))] 0 (by decide) (Nat.le_of_eq rfl) (by decide) (by decide) (lenOf own_pd4 rfl) rfl rfl 399 rfl (hb hby at_396) fun v1122 T1122 Lc1122 X1122 hQ1122 => ?_
                      obtain ⟨rfl, Nq1122, Kq1122, c1122, r01122, r11122, r21122, f1123, f1124, f1125, f1126, P1122⟩ := hQ1122
                      have N1127 := Fr.app N1112 Nq1122
                      have f1128 := f1113.keep Kq1122
                      have f1129 := f1114.keep Kq1122 (ninS ne1077 (ninS ne1094 nin0))
                      have f1130 := f1115.keep Kq1122
                      have f1131 := f1116.keep Kq1122 (ninS ne1078 (ninS ne1095 nin0))
                      have f1132 := f1108.keep Kq1122
                      have z1136 := Nat.le_trans z1121 Kq1122.1
                      show own_Go _ _ _ _ _ (State.setTop _ (mkF _ 399 _ []))
                      refine own_aload X1122 hx 401 rfl (hb hby at_399) rfl rfl ?_
                      refine own_aload X1122 hx 403 rfl (hb hby at_401) rfl rfl ?_
                      refine own_iload X1122 hx 405 rfl (hb hby at_403) rfl ?_
                      refine own_ldZ X1122 hx hZ rfl f1131 ⟨by decide, by decide⟩ f1 (congrArg Value.int (own_nar hf1)) 406 rfl (hb hby at_405) ?_
                      refine own_aload X1122 hx 408 rfl (hb hby at_406) rfl rfl ?_
                      refine own_iload X1122 hx 410 rfl (hb hby at_408) rfl ?_
                      refine own_ldD X1122 hx hZ rfl f1129 ⟨by decide, by decide⟩ (own_x1 i1 i3) rfl 411 rfl (hb hby at_410) ?_
                      refine own_callS X1122 hx hZ (y := (⟨"com/example/outpost/outpost/service/split/ExactSumRoundedPinLaw", "addIf", "(Lcom/example/outpost/outpost/service/split/ExactSum;ZD)V"⟩ : MethodName)) hown (own_hw hw 15 rfl) (own_hw hw 16 rfl) (by decide) (rm_if2 l Z a0 hw [] b1076 f1 (own_x1 i1 i3) a1088 k1088 c1122 r01122 r11122 r21122 (0 : UInt64) (((0 : Int) + (own_t f0 (own_x0 i0 i3))) + (own_t f2 (own_x2 i2 i3))) T1122.heap n0 z1136 f1123 f1124 f1125 f1126 ge1079 ge1097 ne1096 (own_x1_f i1 i3) (own_x1_b i1 i3) P1122 (own_bt2 (own_tb f0 (own_x0_b i0 i3)) (own_tb f2 (own_x2_b i2 i3)))) (own_hw hw 18 rfl) (own_hw hw 17 rfl) (by decide) rfl (by rw [hml]; rfl) [(.ref b1076), (.int f1), (.double (own_x1 i1 i3))] 0 (by decide) (Nat.le_of_eq rfl) (by decide) (by decide) (lenOf own_pd4 rfl) rfl rfl 414 rfl (hb hby at_411) fun v1137 T1137 Lc1137 X1137 hQ1137 => ?_
                      obtain ⟨rfl, Nq1137, Kq1137, c1137, r01137, r11137, r21137, f1138, f1139, f1140, f1141, P1137⟩ := hQ1137
                      have N1142 := Fr.app N1127 Nq1137
                      have f1143 := f1128.keep Kq1137
                      have f1144 := f1129.keep Kq1137 (ninS ne1077 (ninS ne1094 nin0))
                      have f1145 := f1130.keep Kq1137
                      have f1146 := f1131.keep Kq1137 (ninS ne1078 (ninS ne1095 nin0))
                      have f1147 := f1123.keep Kq1137
                      have z1151 := Nat.le_trans z1136 Kq1137.1
                      show own_Go _ _ _ _ _ (State.setTop _ (mkF _ 414 _ []))
                      refine own_aload X1137 hx 416 rfl (hb hby at_414) rfl rfl ?_
                      refine own_virtual X1137 hx hZ (y := (⟨"com/example/outpost/outpost/service/split/ExactSum", "rounded", "()D"⟩ : MethodName)) (z := (⟨"com/example/outpost/outpost/service/split/ExactSum", "rounded", "()D"⟩ : MethodName)) hown (own_hw hw 19 rfl) (own_hw hw 20 rfl) (own_hw hw 22 rfl) (own_hw hw 21 rfl) rfl (a := b1076) f1138 (by decide) (rm_rounded l Z a0 hw [] b1076 a1088 k1088 c1137 r01137 r11137 r21137 (0 : UInt64) ((((0 : Int) + (own_t f0 (own_x0 i0 i3))) + (own_t f2 (own_x2 i2 i3))) + (own_t f1 (own_x1 i1 i3))) T1137.heap n0 z1151 f1139 f1140 f1141 P1137) (own_hw hw 23 rfl) (own_hw hw 4 rfl) (by decide) rfl (by rw [hml]; rfl) [] 0 (by decide) (Nat.le_of_eq rfl) (by decide) (by decide) (lenOf own_pd5 rfl) rfl rfl 419 rfl (hb hby at_416) fun v1152 T1152 Lc1152 X1152 hQ1152 => ?_
                      obtain ⟨d1152, rfl, Nq1152, e1152, fd1152, zd1152⟩ := hQ1152
                      have N1153 := Fr.app N1142 Nq1152
                      show own_Go _ _ _ _ _ (State.setTop _ (mkF _ 419 _ [(.double d1152)]))
                      refine own_dload X1152 hx 421 rfl (hb hby at_419) rfl ?_
                      refine own_dcmp X1152 hx 422 rfl (hb hby at_421) (0 : Int32) (own_end fd1152 zd1152 hE hA hB hc.2.1 (own_p1 _ _ _)) ?_
                      refine own_ifNo X1152 hx 425 rfl (hb hby at_422) (by decide) ?_
                      refine own_iconst X1152 hx 426 rfl (hb hby at_425) (1 : Int32) rfl ?_
                      refine own_goto X1152 hx 430 (hb hby at_426) (by decide) rfl ?_
                      refine own_ret X1152 (some (.int (1 : Int32))) (fun h => by rw [Bd.returns] at h; cases h) Bd.notSynchronized (by decide) (by decide) ?_ (fun fs hr => retN X1152 hx (t := .boolean) Bd.returns (by simp) (hb hby at_430) hr)
                      show Q_rm0 Z i0 i1 i2 i3 i4 h0 n0 _ T1152.heap _
                      rw [e1152]
                      exact ⟨rfl, N1153⟩
                    ·
                      refine own_icmpYes X989 hx 297 (hb hby at_282) (feq hc1075).2 (by decide) rfl ?_
                      refine own_iload X989 hx 299 rfl (hb hby at_297) rfl ?_
                      refine own_iconst X989 hx 300 rfl (hb hby at_299) (2 : Int32) rfl ?_
                      by_cases hc1154 : own_pm i4 = (2 : Int32)
                      ·
                        refine own_icmpNo X989 hx 303 rfl (hb hby at_300) (teq hc1154).2 ?_
                        refine own_iconst X989 hx 304 rfl (hb hby at_303) (1 : Int32) rfl ?_
                        refine own_istore X989 hx 306 rfl (hb hby at_304) #[.val (.int i0), .val (.int i1), .val (.int i2), .val (.int i3), .val (.int i4), .val (.int (own_sa i3)), .val (.int (own_sb i3)), .val (.int (own_tt i3)), .val (.int f0), .val (.int f1), .val (.int f2), .val (.int (own_pm i4)), .val (.long (own_A i0 (own_sa i3))), .second, .val (.long (own_A i1 (own_sb i3))), .second, .val (.double (own_x0 i0 i3)), .second, .val (.double (own_x1 i1 i3)), .second, .val (.double (own_x2 i2 i3)), .second, .val (.long (a1 + b1)), .second, .val (.double c1), .second, .val (.double (FP.dmul (FP.l2d (((2 : Int64) * (a1 + b1)) + sg)) (4602678819172646912 : UInt64))), .second, .val (.ref b949), .val (.ref b968), .val (.int (1 : Int32)), .unset, .unset, .unset] rfl ?_
                        refine own_iconst X989 hx 307 rfl (hb hby at_306) (0 : Int32) rfl ?_
                        refine own_istore X989 hx 309 rfl (hb hby at_307) #[.val (.int i0), .val (.int i1), .val (.int i2), .val (.int i3), .val (.int i4), .val (.int (own_sa i3)), .val (.int (own_sb i3)), .val (.int (own_tt i3)), .val (.int f0), .val (.int f1), .val (.int f2), .val (.int (own_pm i4)), .val (.long (own_A i0 (own_sa i3))), .second, .val (.long (own_A i1 (own_sb i3))), .second, .val (.double (own_x0 i0 i3)), .second, .val (.double (own_x1 i1 i3)), .second, .val (.double (own_x2 i2 i3)), .second, .val (.long (a1 + b1)), .second, .val (.double c1), .second, .val (.double (FP.dmul (FP.l2d (((2 : Int64) * (a1 + b1)) + sg)) (4602678819172646912 : UInt64))), .second, .val (.ref b949), .val (.ref b968), .val (.int (1 : Int32)), .val (.int (0 : Int32)), .unset, .unset] rfl ?_
                        refine own_iconst X989 hx 310 rfl (hb hby at_309) (2 : Int32) rfl ?_
                        refine own_istore X989 hx 312 rfl (hb hby at_310) #[.val (.int i0), .val (.int i1), .val (.int i2), .val (.int i3), .val (.int i4), .val (.int (own_sa i3)), .val (.int (own_sb i3)), .val (.int (own_tt i3)), .val (.int f0), .val (.int f1), .val (.int f2), .val (.int (own_pm i4)), .val (.long (own_A i0 (own_sa i3))), .second, .val (.long (own_A i1 (own_sb i3))), .second, .val (.double (own_x0 i0 i3)), .second, .val (.double (own_x1 i1 i3)), .second, .val (.double (own_x2 i2 i3)), .second, .val (.long (a1 + b1)), .second, .val (.double c1), .second, .val (.double (FP.dmul (FP.l2d (((2 : Int64) * (a1 + b1)) + sg)) (4602678819172646912 : UInt64))), .second, .val (.ref b949), .val (.ref b968), .val (.int (1 : Int32)), .val (.int (0 : Int32)), .val (.int (2 : Int32)), .unset] rfl ?_
                        refine own_goto X989 hx 360 (hb hby at_312) (by decide) rfl ?_
                        refine own_new X989 hx hZ hown (own_hw hw 2 rfl) (own_hw hw 3 rfl) (own_hw hw 4 rfl) e989 363 rfl (hb hby at_360) (by decide) (by decide) fun T1155 h1155 b1155 g1155 X1155 e1155 E1155 A1155 D1155 => ?_
                        have ne1156 : b949 ≠ b1155 := Nat.ne_of_lt (Nat.lt_of_lt_of_le f991.lt (Nat.le_of_eq g1155.symm))
                        have ne1157 : b968 ≠ b1155 := Nat.ne_of_lt (Nat.lt_of_lt_of_le f993.lt (Nat.le_of_eq g1155.symm))
                        have ge1158 : n0 ≤ b1155 := Nat.le_trans z994 (Nat.le_of_eq g1155.symm)
                        have f1159 := f991.ext E1155
                        have f1160 := f992.ext E1155
                        have f1161 := f993.ext E1155
                        have f1162 := f990.ext E1155
                        have z1163 := Nat.le_trans z994 E1155.1
                        have f1164 : Fld Z h1155 b1155 "com/example/outpost/outpost/service/split/ExactSum" "parts" "[D" .null := D1155 (Or.inl (own_hw hw 12 rfl)) (ty := (.array .double)) (by decide)
                        have f1165 : Fld Z h1155 b1155 "com/example/outpost/outpost/service/split/ExactSum" "scratch" "[D" .null := D1155 (Or.inl (own_hw hw 14 rfl)) (ty := (.array .double)) (by decide)
                        have f1166 : Fld Z h1155 b1155 "com/example/outpost/outpost/service/split/ExactSum" "count" "I" (.int (0 : Int32)) := D1155 (Or.inl (own_hw hw 25 rfl)) (ty := .int) (by decide)
                        refine own_dup X1155 hx 364 rfl (hb hby at_363) rfl ?_
                        refine own_special X1155 hx hZ (y := (⟨"com/example/outpost/outpost/service/split/ExactSum", "<init>", "()V"⟩ : MethodName)) hown rfl (own_hw hw 5 rfl) (own_hw hw 6 rfl) (a := b1155) (by decide) rfl (rm_init l Z a0 hw [] b1155 h1155 n0 z1163 A1155 f1164 f1166 f1165 ge1158) (own_hw hw 7 rfl) (own_hw hw 4 rfl) (by decide) e1155 (by rw [hml]; rfl) [] 1 (by decide) (Nat.le_of_eq rfl) (by decide) (by decide) (lenOf own_pd3 rfl) rfl rfl 367 rfl (hb hby at_364) fun v1167 T1167 Lc1167 X1167 hQ1167 => ?_
                        obtain ⟨rfl, Nq1167, Kq1167, a1167, k1167, sz1167, f1168, f1169, f1170, f1171⟩ := hQ1167
                        have N1172 := Fr.app N995 Nq1167
                        have ne1173 : b949 ≠ a1167 := Nat.ne_of_lt (Nat.lt_of_lt_of_le f1159.lt sz1167)
                        have ne1174 : b968 ≠ a1167 := Nat.ne_of_lt (Nat.lt_of_lt_of_le f1161.lt sz1167)
                        have ne1175 : b1155 ≠ a1167 := Nat.ne_of_lt (Nat.lt_of_lt_of_le A1155.lt sz1167)
                        have ge1176 : n0 ≤ a1167 := Nat.le_trans z1163 sz1167
                        have f1177 := f1159.keep Kq1167
                        have f1178 := f1160.keep Kq1167 (ninS ne1156 nin0)
                        have f1179 := f1161.keep Kq1167
                        have f1180 := f1162.keep Kq1167 (ninS ne1157 nin0)
                        have f1181 := A1155.keep Kq1167
                        have z1185 := Nat.le_trans z1163 Kq1167.1
                        show own_Go _ _ _ _ _ (State.setTop _ (mkF _ 367 _ [(.ref b1155)]))
                        refine own_astore X1167 hx 369 rfl (hb hby at_367) rfl #[.val (.int i0), .val (.int i1), .val (.int i2), .val (.int i3), .val (.int i4), .val (.int (own_sa i3)), .val (.int (own_sb i3)), .val (.int (own_tt i3)), .val (.int f0), .val (.int f1), .val (.int f2), .val (.int (own_pm i4)), .val (.long (own_A i0 (own_sa i3))), .second, .val (.long (own_A i1 (own_sb i3))), .second, .val (.double (own_x0 i0 i3)), .second, .val (.double (own_x1 i1 i3)), .second, .val (.double (own_x2 i2 i3)), .second, .val (.long (a1 + b1)), .second, .val (.double c1), .second, .val (.double (FP.dmul (FP.l2d (((2 : Int64) * (a1 + b1)) + sg)) (4602678819172646912 : UInt64))), .second, .val (.ref b949), .val (.ref b968), .val (.int (1 : Int32)), .val (.int (0 : Int32)), .val (.int (2 : Int32)), .val (.ref b1155)] rfl ?_
                        refine own_aload X1167 hx 371 rfl (hb hby at_369) rfl rfl ?_
                        refine own_aload X1167 hx 373 rfl (hb hby at_371) rfl rfl ?_
                        refine own_iload X1167 hx 375 rfl (hb hby at_373) rfl ?_
                        refine own_ldZ X1167 hx hZ rfl f1180 ⟨by decide, by decide⟩ f1 (congrArg Value.int (own_nar hf1)) 376 rfl (hb hby at_375) ?_
                        refine own_aload X1167 hx 378 rfl (hb hby at_376) rfl rfl ?_
                        refine own_iload X1167 hx 380 rfl (hb hby at_378) rfl ?_
                        refine own_ldD X1167 hx hZ rfl f1178 ⟨by decide, by decide⟩ (own_x1 i1 i3) rfl 381 rfl (hb hby at_380) ?_
                        refine own_callS X1167 hx hZ (y := (⟨"com/example/outpost/outpost/service/split/ExactSumRoundedPinLaw", "addIf", "(Lcom/example/outpost/outpost/service/split/ExactSum;ZD)V"⟩ : MethodName)) hown (own_hw hw 15 rfl) (own_hw hw 16 rfl) (by decide) (rm_if0 l Z a0 hw [] b1155 f1 (own_x1 i1 i3) a1167 k1167 (0 : Int32) (0 : UInt64) (0 : UInt64) (0 : UInt64) (0 : UInt64) (0 : Int) T1167.heap n0 z1185 f1168 f1169 f1170 f1171 ge1158 ge1176 ne1175 (own_x1_f i1 i3) (own_x1_b i1 i3) ⟨rfl, rfl⟩ own_bt0) (own_hw hw 18 rfl) (own_hw hw 17 rfl) (by decide) rfl (by rw [hml]; rfl) [(.ref b1155), (.int f1), (.double (own_x1 i1 i3))] 0 (by decide) (Nat.le_of_eq rfl) (by decide) (by decide) (lenOf own_pd4 rfl) rfl rfl 384 rfl (hb hby at_381) fun v1186 T1186 Lc1186 X1186 hQ1186 => ?_
                        obtain ⟨rfl, Nq1186, Kq1186, c1186, r01186, r11186, r21186, f1187, f1188, f1189, f1190, P1186⟩ := hQ1186
                        have N1191 := Fr.app N1172 Nq1186
                        have f1192 := f1177.keep Kq1186
                        have f1193 := f1178.keep Kq1186 (ninS ne1156 (ninS ne1173 nin0))
                        have f1194 := f1179.keep Kq1186
                        have f1195 := f1180.keep Kq1186 (ninS ne1157 (ninS ne1174 nin0))
                        have f1196 := f1168.keep Kq1186
                        have z1200 := Nat.le_trans z1185 Kq1186.1
                        show own_Go _ _ _ _ _ (State.setTop _ (mkF _ 384 _ []))
                        refine own_aload X1186 hx 386 rfl (hb hby at_384) rfl rfl ?_
                        refine own_aload X1186 hx 388 rfl (hb hby at_386) rfl rfl ?_
                        refine own_iload X1186 hx 390 rfl (hb hby at_388) rfl ?_
                        refine own_ldZ X1186 hx hZ rfl f1195 ⟨by decide, by decide⟩ f0 (congrArg Value.int (own_nar hf0)) 391 rfl (hb hby at_390) ?_
                        refine own_aload X1186 hx 393 rfl (hb hby at_391) rfl rfl ?_
                        refine own_iload X1186 hx 395 rfl (hb hby at_393) rfl ?_
                        refine own_ldD X1186 hx hZ rfl f1193 ⟨by decide, by decide⟩ (own_x0 i0 i3) rfl 396 rfl (hb hby at_395) ?_
                        refine own_callS X1186 hx hZ (y := (⟨"com/example/outpost/outpost/service/split/ExactSumRoundedPinLaw", "addIf", "(Lcom/example/outpost/outpost/service/split/ExactSum;ZD)V"⟩ : MethodName)) hown (own_hw hw 15 rfl) (own_hw hw 16 rfl) (by decide) (rm_if1 l Z a0 hw [] b1155 f0 (own_x0 i0 i3) a1167 k1167 c1186 r01186 r11186 r21186 (0 : UInt64) ((0 : Int) + (own_t f1 (own_x1 i1 i3))) T1186.heap n0 z1200 f1187 f1188 f1189 f1190 ge1158 ge1176 ne1175 (own_x0_f i0 i3) (own_x0_b i0 i3) P1186 (own_bt1 (own_tb f1 (own_x1_b i1 i3)))) (own_hw hw 18 rfl) (own_hw hw 17 rfl) (by decide) rfl (by rw [hml]; rfl) [(.ref b1155), (.int f0), (.double (own_x0 i0 i3))] 0 (by decide) (Nat.le_of_eq rfl) (by decide) (by decide) (lenOf own_pd4 rfl) rfl rfl 399 rfl (hb hby at_396) fun v1201 T1201 Lc1201 X1201 hQ1201 => ?_
                        obtain ⟨rfl, Nq1201, Kq1201, c1201, r01201, r11201, r21201, f1202, f1203, f1204, f1205, P1201⟩ := hQ1201
                        have N1206 := Fr.app N1191 Nq1201
                        have f1207 := f1192.keep Kq1201
                        have f1208 := f1193.keep Kq1201 (ninS ne1156 (ninS ne1173 nin0))
                        have f1209 := f1194.keep Kq1201
                        have f1210 := f1195.keep Kq1201 (ninS ne1157 (ninS ne1174 nin0))
                        have f1211 := f1187.keep Kq1201
                        have z1215 := Nat.le_trans z1200 Kq1201.1
                        show own_Go _ _ _ _ _ (State.setTop _ (mkF _ 399 _ []))
                        refine own_aload X1201 hx 401 rfl (hb hby at_399) rfl rfl ?_
                        refine own_aload X1201 hx 403 rfl (hb hby at_401) rfl rfl ?_
                        refine own_iload X1201 hx 405 rfl (hb hby at_403) rfl ?_
                        refine own_ldZ X1201 hx hZ rfl f1210 ⟨by decide, by decide⟩ f2 (congrArg Value.int (own_nar hf2)) 406 rfl (hb hby at_405) ?_
                        refine own_aload X1201 hx 408 rfl (hb hby at_406) rfl rfl ?_
                        refine own_iload X1201 hx 410 rfl (hb hby at_408) rfl ?_
                        refine own_ldD X1201 hx hZ rfl f1208 ⟨by decide, by decide⟩ (own_x2 i2 i3) rfl 411 rfl (hb hby at_410) ?_
                        refine own_callS X1201 hx hZ (y := (⟨"com/example/outpost/outpost/service/split/ExactSumRoundedPinLaw", "addIf", "(Lcom/example/outpost/outpost/service/split/ExactSum;ZD)V"⟩ : MethodName)) hown (own_hw hw 15 rfl) (own_hw hw 16 rfl) (by decide) (rm_if2 l Z a0 hw [] b1155 f2 (own_x2 i2 i3) a1167 k1167 c1201 r01201 r11201 r21201 (0 : UInt64) (((0 : Int) + (own_t f1 (own_x1 i1 i3))) + (own_t f0 (own_x0 i0 i3))) T1201.heap n0 z1215 f1202 f1203 f1204 f1205 ge1158 ge1176 ne1175 (own_x2_f i2 i3) (own_x2_b i2 i3) P1201 (own_bt2 (own_tb f1 (own_x1_b i1 i3)) (own_tb f0 (own_x0_b i0 i3)))) (own_hw hw 18 rfl) (own_hw hw 17 rfl) (by decide) rfl (by rw [hml]; rfl) [(.ref b1155), (.int f2), (.double (own_x2 i2 i3))] 0 (by decide) (Nat.le_of_eq rfl) (by decide) (by decide) (lenOf own_pd4 rfl) rfl rfl 414 rfl (hb hby at_411) fun v1216 T1216 Lc1216 X1216 hQ1216 => ?_
                        obtain ⟨rfl, Nq1216, Kq1216, c1216, r01216, r11216, r21216, f1217, f1218, f1219, f1220, P1216⟩ := hQ1216
                        have N1221 := Fr.app N1206 Nq1216
                        have f1222 := f1207.keep Kq1216
                        have f1223 := f1208.keep Kq1216 (ninS ne1156 (ninS ne1173 nin0))
                        have f1224 := f1209.keep Kq1216
                        have f1225 := f1210.keep Kq1216 (ninS ne1157 (ninS ne1174 nin0))
                        have f1226 := f1202.keep Kq1216
                        have z1230 := Nat.le_trans z1215 Kq1216.1
                        show own_Go _ _ _ _ _ (State.setTop _ (mkF _ 414 _ []))
                        refine own_aload X1216 hx 416 rfl (hb hby at_414) rfl rfl ?_
                        refine own_virtual X1216 hx hZ (y := (⟨"com/example/outpost/outpost/service/split/ExactSum", "rounded", "()D"⟩ : MethodName)) (z := (⟨"com/example/outpost/outpost/service/split/ExactSum", "rounded", "()D"⟩ : MethodName)) hown (own_hw hw 19 rfl) (own_hw hw 20 rfl) (own_hw hw 22 rfl) (own_hw hw 21 rfl) rfl (a := b1155) f1217 (by decide) (rm_rounded l Z a0 hw [] b1155 a1167 k1167 c1216 r01216 r11216 r21216 (0 : UInt64) ((((0 : Int) + (own_t f1 (own_x1 i1 i3))) + (own_t f0 (own_x0 i0 i3))) + (own_t f2 (own_x2 i2 i3))) T1216.heap n0 z1230 f1218 f1219 f1220 P1216) (own_hw hw 23 rfl) (own_hw hw 4 rfl) (by decide) rfl (by rw [hml]; rfl) [] 0 (by decide) (Nat.le_of_eq rfl) (by decide) (by decide) (lenOf own_pd5 rfl) rfl rfl 419 rfl (hb hby at_416) fun v1231 T1231 Lc1231 X1231 hQ1231 => ?_
                        obtain ⟨d1231, rfl, Nq1231, e1231, fd1231, zd1231⟩ := hQ1231
                        have N1232 := Fr.app N1221 Nq1231
                        show own_Go _ _ _ _ _ (State.setTop _ (mkF _ 419 _ [(.double d1231)]))
                        refine own_dload X1231 hx 421 rfl (hb hby at_419) rfl ?_
                        refine own_dcmp X1231 hx 422 rfl (hb hby at_421) (0 : Int32) (own_end fd1231 zd1231 hE hA hB hc.2.1 (own_p2 _ _ _)) ?_
                        refine own_ifNo X1231 hx 425 rfl (hb hby at_422) (by decide) ?_
                        refine own_iconst X1231 hx 426 rfl (hb hby at_425) (1 : Int32) rfl ?_
                        refine own_goto X1231 hx 430 (hb hby at_426) (by decide) rfl ?_
                        refine own_ret X1231 (some (.int (1 : Int32))) (fun h => by rw [Bd.returns] at h; cases h) Bd.notSynchronized (by decide) (by decide) ?_ (fun fs hr => retN X1231 hx (t := .boolean) Bd.returns (by simp) (hb hby at_430) hr)
                        show Q_rm0 Z i0 i1 i2 i3 i4 h0 n0 _ T1231.heap _
                        rw [e1231]
                        exact ⟨rfl, N1232⟩
                      ·
                        refine own_icmpYes X989 hx 315 (hb hby at_300) (feq hc1154).2 (by decide) rfl ?_
                        refine own_iload X989 hx 317 rfl (hb hby at_315) rfl ?_
                        refine own_iconst X989 hx 318 rfl (hb hby at_317) (3 : Int32) rfl ?_
                        by_cases hc1233 : own_pm i4 = (3 : Int32)
                        ·
                          refine own_icmpNo X989 hx 321 rfl (hb hby at_318) (teq hc1233).2 ?_
                          refine own_iconst X989 hx 322 rfl (hb hby at_321) (1 : Int32) rfl ?_
                          refine own_istore X989 hx 324 rfl (hb hby at_322) #[.val (.int i0), .val (.int i1), .val (.int i2), .val (.int i3), .val (.int i4), .val (.int (own_sa i3)), .val (.int (own_sb i3)), .val (.int (own_tt i3)), .val (.int f0), .val (.int f1), .val (.int f2), .val (.int (own_pm i4)), .val (.long (own_A i0 (own_sa i3))), .second, .val (.long (own_A i1 (own_sb i3))), .second, .val (.double (own_x0 i0 i3)), .second, .val (.double (own_x1 i1 i3)), .second, .val (.double (own_x2 i2 i3)), .second, .val (.long (a1 + b1)), .second, .val (.double c1), .second, .val (.double (FP.dmul (FP.l2d (((2 : Int64) * (a1 + b1)) + sg)) (4602678819172646912 : UInt64))), .second, .val (.ref b949), .val (.ref b968), .val (.int (1 : Int32)), .unset, .unset, .unset] rfl ?_
                          refine own_iconst X989 hx 325 rfl (hb hby at_324) (2 : Int32) rfl ?_
                          refine own_istore X989 hx 327 rfl (hb hby at_325) #[.val (.int i0), .val (.int i1), .val (.int i2), .val (.int i3), .val (.int i4), .val (.int (own_sa i3)), .val (.int (own_sb i3)), .val (.int (own_tt i3)), .val (.int f0), .val (.int f1), .val (.int f2), .val (.int (own_pm i4)), .val (.long (own_A i0 (own_sa i3))), .second, .val (.long (own_A i1 (own_sb i3))), .second, .val (.double (own_x0 i0 i3)), .second, .val (.double (own_x1 i1 i3)), .second, .val (.double (own_x2 i2 i3)), .second, .val (.long (a1 + b1)), .second, .val (.double c1), .second, .val (.double (FP.dmul (FP.l2d (((2 : Int64) * (a1 + b1)) + sg)) (4602678819172646912 : UInt64))), .second, .val (.ref b949), .val (.ref b968), .val (.int (1 : Int32)), .val (.int (2 : Int32)), .unset, .unset] rfl ?_
                          refine own_iconst X989 hx 328 rfl (hb hby at_327) (0 : Int32) rfl ?_
                          refine own_istore X989 hx 330 rfl (hb hby at_328) #[.val (.int i0), .val (.int i1), .val (.int i2), .val (.int i3), .val (.int i4), .val (.int (own_sa i3)), .val (.int (own_sb i3)), .val (.int (own_tt i3)), .val (.int f0), .val (.int f1), .val (.int f2), .val (.int (own_pm i4)), .val (.long (own_A i0 (own_sa i3))), .second, .val (.long (own_A i1 (own_sb i3))), .second, .val (.double (own_x0 i0 i3)), .second, .val (.double (own_x1 i1 i3)), .second, .val (.double (own_x2 i2 i3)), .second, .val (.long (a1 + b1)), .second, .val (.double c1), .second, .val (.double (FP.dmul (FP.l2d (((2 : Int64) * (a1 + b1)) + sg)) (4602678819172646912 : UInt64))), .second, .val (.ref b949), .val (.ref b968), .val (.int (1 : Int32)), .val (.int (2 : Int32)), .val (.int (0 : Int32)), .unset] rfl ?_
                          refine own_goto X989 hx 360 (hb hby at_330) (by decide) rfl ?_
                          refine own_new X989 hx hZ hown (own_hw hw 2 rfl) (own_hw hw 3 rfl) (own_hw hw 4 rfl) e989 363 rfl (hb hby at_360) (by decide) (by decide) fun T1234 h1234 b1234 g1234 X1234 e1234 E1234 A1234 D1234 => ?_
                          have ne1235 : b949 ≠ b1234 := Nat.ne_of_lt (Nat.lt_of_lt_of_le f991.lt (Nat.le_of_eq g1234.symm))
                          have ne1236 : b968 ≠ b1234 := Nat.ne_of_lt (Nat.lt_of_lt_of_le f993.lt (Nat.le_of_eq g1234.symm))
                          have ge1237 : n0 ≤ b1234 := Nat.le_trans z994 (Nat.le_of_eq g1234.symm)
                          have f1238 := f991.ext E1234
                          have f1239 := f992.ext E1234
                          have f1240 := f993.ext E1234
                          have f1241 := f990.ext E1234
                          have z1242 := Nat.le_trans z994 E1234.1
                          have f1243 : Fld Z h1234 b1234 "com/example/outpost/outpost/service/split/ExactSum" "parts" "[D" .null := D1234 (Or.inl (own_hw hw 12 rfl)) (ty := (.array .double)) (by decide)
                          have f1244 : Fld Z h1234 b1234 "com/example/outpost/outpost/service/split/ExactSum" "scratch" "[D" .null := D1234 (Or.inl (own_hw hw 14 rfl)) (ty := (.array .double)) (by decide)
                          have f1245 : Fld Z h1234 b1234 "com/example/outpost/outpost/service/split/ExactSum" "count" "I" (.int (0 : Int32)) := D1234 (Or.inl (own_hw hw 25 rfl)) (ty := .int) (by decide)
                          refine own_dup X1234 hx 364 rfl (hb hby at_363) rfl ?_
                          refine own_special X1234 hx hZ (y := (⟨"com/example/outpost/outpost/service/split/ExactSum", "<init>", "()V"⟩ : MethodName)) hown rfl (own_hw hw 5 rfl) (own_hw hw 6 rfl) (a := b1234) (by decide) rfl (rm_init l Z a0 hw [] b1234 h1234 n0 z1242 A1234 f1243 f1245 f1244 ge1237) (own_hw hw 7 rfl) (own_hw hw 4 rfl) (by decide) e1234 (by rw [hml]; rfl) [] 1 (by decide) (Nat.le_of_eq rfl) (by decide) (by decide) (lenOf own_pd3 rfl) rfl rfl 367 rfl (hb hby at_364) fun v1246 T1246 Lc1246 X1246 hQ1246 => ?_
                          obtain ⟨rfl, Nq1246, Kq1246, a1246, k1246, sz1246, f1247, f1248, f1249, f1250⟩ := hQ1246
                          have N1251 := Fr.app N995 Nq1246
                          have ne1252 : b949 ≠ a1246 := Nat.ne_of_lt (Nat.lt_of_lt_of_le f1238.lt sz1246)
                          have ne1253 : b968 ≠ a1246 := Nat.ne_of_lt (Nat.lt_of_lt_of_le f1240.lt sz1246)
                          have ne1254 : b1234 ≠ a1246 := Nat.ne_of_lt (Nat.lt_of_lt_of_le A1234.lt sz1246)
                          have ge1255 : n0 ≤ a1246 := Nat.le_trans z1242 sz1246
                          have f1256 := f1238.keep Kq1246
                          have f1257 := f1239.keep Kq1246 (ninS ne1235 nin0)
                          have f1258 := f1240.keep Kq1246
                          have f1259 := f1241.keep Kq1246 (ninS ne1236 nin0)
                          have f1260 := A1234.keep Kq1246
                          have z1264 := Nat.le_trans z1242 Kq1246.1
                          show own_Go _ _ _ _ _ (State.setTop _ (mkF _ 367 _ [(.ref b1234)]))
                          refine own_astore X1246 hx 369 rfl (hb hby at_367) rfl #[.val (.int i0), .val (.int i1), .val (.int i2), .val (.int i3), .val (.int i4), .val (.int (own_sa i3)), .val (.int (own_sb i3)), .val (.int (own_tt i3)), .val (.int f0), .val (.int f1), .val (.int f2), .val (.int (own_pm i4)), .val (.long (own_A i0 (own_sa i3))), .second, .val (.long (own_A i1 (own_sb i3))), .second, .val (.double (own_x0 i0 i3)), .second, .val (.double (own_x1 i1 i3)), .second, .val (.double (own_x2 i2 i3)), .second, .val (.long (a1 + b1)), .second, .val (.double c1), .second, .val (.double (FP.dmul (FP.l2d (((2 : Int64) * (a1 + b1)) + sg)) (4602678819172646912 : UInt64))), .second, .val (.ref b949), .val (.ref b968), .val (.int (1 : Int32)), .val (.int (2 : Int32)), .val (.int (0 : Int32)), .val (.ref b1234)] rfl ?_
                          refine own_aload X1246 hx 371 rfl (hb hby at_369) rfl rfl ?_
                          refine own_aload X1246 hx 373 rfl (hb hby at_371) rfl rfl ?_
                          refine own_iload X1246 hx 375 rfl (hb hby at_373) rfl ?_
                          refine own_ldZ X1246 hx hZ rfl f1259 ⟨by decide, by decide⟩ f1 (congrArg Value.int (own_nar hf1)) 376 rfl (hb hby at_375) ?_
                          refine own_aload X1246 hx 378 rfl (hb hby at_376) rfl rfl ?_
                          refine own_iload X1246 hx 380 rfl (hb hby at_378) rfl ?_
                          refine own_ldD X1246 hx hZ rfl f1257 ⟨by decide, by decide⟩ (own_x1 i1 i3) rfl 381 rfl (hb hby at_380) ?_
                          refine own_callS X1246 hx hZ (y := (⟨"com/example/outpost/outpost/service/split/ExactSumRoundedPinLaw", "addIf", "(Lcom/example/outpost/outpost/service/split/ExactSum;ZD)V"⟩ : MethodName)) hown (own_hw hw 15 rfl) (own_hw hw 16 rfl) (by decide) (rm_if0 l Z a0 hw [] b1234 f1 (own_x1 i1 i3) a1246 k1246 (0 : Int32) (0 : UInt64) (0 : UInt64) (0 : UInt64) (0 : UInt64) (0 : Int) T1246.heap n0 z1264 f1247 f1248 f1249 f1250 ge1237 ge1255 ne1254 (own_x1_f i1 i3) (own_x1_b i1 i3) ⟨rfl, rfl⟩ own_bt0) (own_hw hw 18 rfl) (own_hw hw 17 rfl) (by decide) rfl (by rw [hml]; rfl) [(.ref b1234), (.int f1), (.double (own_x1 i1 i3))] 0 (by decide) (Nat.le_of_eq rfl) (by decide) (by decide) (lenOf own_pd4 rfl) rfl rfl 384 rfl (hb hby at_381) fun v1265 T1265 Lc1265 X1265 hQ1265 => ?_
                          obtain ⟨rfl, Nq1265, Kq1265, c1265, r01265, r11265, r21265, f1266, f1267, f1268, f1269, P1265⟩ := hQ1265
                          have N1270 := Fr.app N1251 Nq1265
                          have f1271 := f1256.keep Kq1265
                          have f1272 := f1257.keep Kq1265 (ninS ne1235 (ninS ne1252 nin0))
                          have f1273 := f1258.keep Kq1265
                          have f1274 := f1259.keep Kq1265 (ninS ne1236 (ninS ne1253 nin0))
                          have f1275 := f1247.keep Kq1265
                          have z1279 := Nat.le_trans z1264 Kq1265.1
                          show own_Go _ _ _ _ _ (State.setTop _ (mkF _ 384 _ []))
                          refine own_aload X1265 hx 386 rfl (hb hby at_384) rfl rfl ?_
                          refine own_aload X1265 hx 388 rfl (hb hby at_386) rfl rfl ?_
                          refine own_iload X1265 hx 390 rfl (hb hby at_388) rfl ?_
                          refine own_ldZ X1265 hx hZ rfl f1274 ⟨by decide, by decide⟩ f2 (congrArg Value.int (own_nar hf2)) 391 rfl (hb hby at_390) ?_
                          refine own_aload X1265 hx 393 rfl (hb hby at_391) rfl rfl ?_
                          refine own_iload X1265 hx 395 rfl (hb hby at_393) rfl ?_
                          refine own_ldD X1265 hx hZ rfl f1272 ⟨by decide, by decide⟩ (own_x2 i2 i3) rfl 396 rfl (hb hby at_395) ?_
                          refine own_callS X1265 hx hZ (y := (⟨"com/example/outpost/outpost/service/split/ExactSumRoundedPinLaw", "addIf", "(Lcom/example/outpost/outpost/service/split/ExactSum;ZD)V"⟩ : MethodName)) hown (own_hw hw 15 rfl) (own_hw hw 16 rfl) (by decide) (rm_if1 l Z a0 hw [] b1234 f2 (own_x2 i2 i3) a1246 k1246 c1265 r01265 r11265 r21265 (0 : UInt64) ((0 : Int) + (own_t f1 (own_x1 i1 i3))) T1265.heap n0 z1279 f1266 f1267 f1268 f1269 ge1237 ge1255 ne1254 (own_x2_f i2 i3) (own_x2_b i2 i3) P1265 (own_bt1 (own_tb f1 (own_x1_b i1 i3)))) (own_hw hw 18 rfl) (own_hw hw 17 rfl) (by decide) rfl (by rw [hml]; rfl) [(.ref b1234), (.int f2), (.double (own_x2 i2 i3))] 0 (by decide) (Nat.le_of_eq rfl) (by decide) (by decide) (lenOf own_pd4 rfl) rfl rfl 399 rfl (hb hby at_396) fun v1280 T1280 Lc1280 X1280 hQ1280 => ?_
                          obtain ⟨rfl, Nq1280, Kq1280, c1280, r01280, r11280, r21280, f1281, f1282, f1283, f1284, P1280⟩ := hQ1280
                          have N1285 := Fr.app N1270 Nq1280
                          have f1286 := f1271.keep Kq1280
                          have f1287 := f1272.keep Kq1280 (ninS ne1235 (ninS ne1252 nin0))
                          have f1288 := f1273.keep Kq1280
                          have f1289 := f1274.keep Kq1280 (ninS ne1236 (ninS ne1253 nin0))
                          have f1290 := f1266.keep Kq1280
                          have z1294 := Nat.le_trans z1279 Kq1280.1
                          show own_Go _ _ _ _ _ (State.setTop _ (mkF _ 399 _ []))
                          refine own_aload X1280 hx 401 rfl (hb hby at_399) rfl rfl ?_
                          refine own_aload X1280 hx 403 rfl (hb hby at_401) rfl rfl ?_
                          refine own_iload X1280 hx 405 rfl (hb hby at_403) rfl ?_
                          refine own_ldZ X1280 hx hZ rfl f1289 ⟨by decide, by decide⟩ f0 (congrArg Value.int (own_nar hf0)) 406 rfl (hb hby at_405) ?_
                          refine own_aload X1280 hx 408 rfl (hb hby at_406) rfl rfl ?_
                          refine own_iload X1280 hx 410 rfl (hb hby at_408) rfl ?_
                          refine own_ldD X1280 hx hZ rfl f1287 ⟨by decide, by decide⟩ (own_x0 i0 i3) rfl 411 rfl (hb hby at_410) ?_
                          refine own_callS X1280 hx hZ (y := (⟨"com/example/outpost/outpost/service/split/ExactSumRoundedPinLaw", "addIf", "(Lcom/example/outpost/outpost/service/split/ExactSum;ZD)V"⟩ : MethodName)) hown (own_hw hw 15 rfl) (own_hw hw 16 rfl) (by decide) (rm_if2 l Z a0 hw [] b1234 f0 (own_x0 i0 i3) a1246 k1246 c1280 r01280 r11280 r21280 (0 : UInt64) (((0 : Int) + (own_t f1 (own_x1 i1 i3))) + (own_t f2 (own_x2 i2 i3))) T1280.heap n0 z1294 f1281 f1282 f1283 f1284 ge1237 ge1255 ne1254 (own_x0_f i0 i3) (own_x0_b i0 i3) P1280 (own_bt2 (own_tb f1 (own_x1_b i1 i3)) (own_tb f2 (own_x2_b i2 i3)))) (own_hw hw 18 rfl) (own_hw hw 17 rfl) (by decide) rfl (by rw [hml]; rfl) [(.ref b1234), (.int f0), (.double (own_x0 i0 i3))] 0 (by decide) (Nat.le_of_eq rfl) (by decide) (by decide) (lenOf own_pd4 rfl) rfl rfl 414 rfl (hb hby at_411) fun v1295 T1295 Lc1295 X1295 hQ1295 => ?_
                          obtain ⟨rfl, Nq1295, Kq1295, c1295, r01295, r11295, r21295, f1296, f1297, f1298, f1299, P1295⟩ := hQ1295
                          have N1300 := Fr.app N1285 Nq1295
                          have f1301 := f1286.keep Kq1295
                          have f1302 := f1287.keep Kq1295 (ninS ne1235 (ninS ne1252 nin0))
                          have f1303 := f1288.keep Kq1295
                          have f1304 := f1289.keep Kq1295 (ninS ne1236 (ninS ne1253 nin0))
                          have f1305 := f1281.keep Kq1295
                          have z1309 := Nat.le_trans z1294 Kq1295.1
                          show own_Go _ _ _ _ _ (State.setTop _ (mkF _ 414 _ []))
                          refine own_aload X1295 hx 416 rfl (hb hby at_414) rfl rfl ?_
                          refine own_virtual X1295 hx hZ (y := (⟨"com/example/outpost/outpost/service/split/ExactSum", "rounded", "()D"⟩ : MethodName)) (z := (⟨"com/example/outpost/outpost/service/split/ExactSum", "rounded", "()D"⟩ : MethodName)) hown (own_hw hw 19 rfl) (own_hw hw 20 rfl) (own_hw hw 22 rfl) (own_hw hw 21 rfl) rfl (a := b1234) f1296 (by decide) (rm_rounded l Z a0 hw [] b1234 a1246 k1246 c1295 r01295 r11295 r21295 (0 : UInt64) ((((0 : Int) + (own_t f1 (own_x1 i1 i3))) + (own_t f2 (own_x2 i2 i3))) + (own_t f0 (own_x0 i0 i3))) T1295.heap n0 z1309 f1297 f1298 f1299 P1295) (own_hw hw 23 rfl) (own_hw hw 4 rfl) (by decide) rfl (by rw [hml]; rfl) [] 0 (by decide) (Nat.le_of_eq rfl) (by decide) (by decide) (lenOf own_pd5 rfl) rfl rfl 419 rfl (hb hby at_416) fun v1310 T1310 Lc1310 X1310 hQ1310 => ?_
                          obtain ⟨d1310, rfl, Nq1310, e1310, fd1310, zd1310⟩ := hQ1310
                          have N1311 := Fr.app N1300 Nq1310
                          show own_Go _ _ _ _ _ (State.setTop _ (mkF _ 419 _ [(.double d1310)]))
                          refine own_dload X1310 hx 421 rfl (hb hby at_419) rfl ?_
                          refine own_dcmp X1310 hx 422 rfl (hb hby at_421) (0 : Int32) (own_end fd1310 zd1310 hE hA hB hc.2.1 (own_p3 _ _ _)) ?_
                          refine own_ifNo X1310 hx 425 rfl (hb hby at_422) (by decide) ?_
                          refine own_iconst X1310 hx 426 rfl (hb hby at_425) (1 : Int32) rfl ?_
                          refine own_goto X1310 hx 430 (hb hby at_426) (by decide) rfl ?_
                          refine own_ret X1310 (some (.int (1 : Int32))) (fun h => by rw [Bd.returns] at h; cases h) Bd.notSynchronized (by decide) (by decide) ?_ (fun fs hr => retN X1310 hx (t := .boolean) Bd.returns (by simp) (hb hby at_430) hr)
                          show Q_rm0 Z i0 i1 i2 i3 i4 h0 n0 _ T1310.heap _
                          rw [e1310]
                          exact ⟨rfl, N1311⟩
                        ·
                          refine own_icmpYes X989 hx 333 (hb hby at_318) (feq hc1233).2 (by decide) rfl ?_
                          refine own_iload X989 hx 335 rfl (hb hby at_333) rfl ?_
                          refine own_iconst X989 hx 336 rfl (hb hby at_335) (4 : Int32) rfl ?_
                          by_cases hc1312 : own_pm i4 = (4 : Int32)
                          ·
                            refine own_icmpNo X989 hx 339 rfl (hb hby at_336) (teq hc1312).2 ?_
                            refine own_iconst X989 hx 340 rfl (hb hby at_339) (2 : Int32) rfl ?_
                            refine own_istore X989 hx 342 rfl (hb hby at_340) #[.val (.int i0), .val (.int i1), .val (.int i2), .val (.int i3), .val (.int i4), .val (.int (own_sa i3)), .val (.int (own_sb i3)), .val (.int (own_tt i3)), .val (.int f0), .val (.int f1), .val (.int f2), .val (.int (own_pm i4)), .val (.long (own_A i0 (own_sa i3))), .second, .val (.long (own_A i1 (own_sb i3))), .second, .val (.double (own_x0 i0 i3)), .second, .val (.double (own_x1 i1 i3)), .second, .val (.double (own_x2 i2 i3)), .second, .val (.long (a1 + b1)), .second, .val (.double c1), .second, .val (.double (FP.dmul (FP.l2d (((2 : Int64) * (a1 + b1)) + sg)) (4602678819172646912 : UInt64))), .second, .val (.ref b949), .val (.ref b968), .val (.int (2 : Int32)), .unset, .unset, .unset] rfl ?_
                            refine own_iconst X989 hx 343 rfl (hb hby at_342) (0 : Int32) rfl ?_
                            refine own_istore X989 hx 345 rfl (hb hby at_343) #[.val (.int i0), .val (.int i1), .val (.int i2), .val (.int i3), .val (.int i4), .val (.int (own_sa i3)), .val (.int (own_sb i3)), .val (.int (own_tt i3)), .val (.int f0), .val (.int f1), .val (.int f2), .val (.int (own_pm i4)), .val (.long (own_A i0 (own_sa i3))), .second, .val (.long (own_A i1 (own_sb i3))), .second, .val (.double (own_x0 i0 i3)), .second, .val (.double (own_x1 i1 i3)), .second, .val (.double (own_x2 i2 i3)), .second, .val (.long (a1 + b1)), .second, .val (.double c1), .second, .val (.double (FP.dmul (FP.l2d (((2 : Int64) * (a1 + b1)) + sg)) (4602678819172646912 : UInt64))), .second, .val (.ref b949), .val (.ref b968), .val (.int (2 : Int32)), .val (.int (0 : Int32)), .unset, .unset] rfl ?_
                            refine own_iconst X989 hx 346 rfl (hb hby at_345) (1 : Int32) rfl ?_
                            refine own_istore X989 hx 348 rfl (hb hby at_346) #[.val (.int i0), .val (.int i1), .val (.int i2), .val (.int i3), .val (.int i4), .val (.int (own_sa i3)), .val (.int (own_sb i3)), .val (.int (own_tt i3)), .val (.int f0), .val (.int f1), .val (.int f2), .val (.int (own_pm i4)), .val (.long (own_A i0 (own_sa i3))), .second, .val (.long (own_A i1 (own_sb i3))), .second, .val (.double (own_x0 i0 i3)), .second, .val (.double (own_x1 i1 i3)), .second, .val (.double (own_x2 i2 i3)), .second, .val (.long (a1 + b1)), .second, .val (.double c1), .second, .val (.double (FP.dmul (FP.l2d (((2 : Int64) * (a1 + b1)) + sg)) (4602678819172646912 : UInt64))), .second, .val (.ref b949), .val (.ref b968), .val (.int (2 : Int32)), .val (.int (0 : Int32)), .val (.int (1 : Int32)), .unset] rfl ?_
                            refine own_goto X989 hx 360 (hb hby at_348) (by decide) rfl ?_
                            refine own_new X989 hx hZ hown (own_hw hw 2 rfl) (own_hw hw 3 rfl) (own_hw hw 4 rfl) e989 363 rfl (hb hby at_360) (by decide) (by decide) fun T1313 h1313 b1313 g1313 X1313 e1313 E1313 A1313 D1313 => ?_
                            have ne1314 : b949 ≠ b1313 := Nat.ne_of_lt (Nat.lt_of_lt_of_le f991.lt (Nat.le_of_eq g1313.symm))
                            have ne1315 : b968 ≠ b1313 := Nat.ne_of_lt (Nat.lt_of_lt_of_le f993.lt (Nat.le_of_eq g1313.symm))
                            have ge1316 : n0 ≤ b1313 := Nat.le_trans z994 (Nat.le_of_eq g1313.symm)
                            have f1317 := f991.ext E1313
                            have f1318 := f992.ext E1313
                            have f1319 := f993.ext E1313
                            have f1320 := f990.ext E1313
                            have z1321 := Nat.le_trans z994 E1313.1
                            have f1322 : Fld Z h1313 b1313 "com/example/outpost/outpost/service/split/ExactSum" "parts" "[D" .null := D1313 (Or.inl (own_hw hw 12 rfl)) (ty := (.array .double)) (by decide)
                            have f1323 : Fld Z h1313 b1313 "com/example/outpost/outpost/service/split/ExactSum" "scratch" "[D" .null := D1313 (Or.inl (own_hw hw 14 rfl)) (ty := (.array .double)) (by decide)
                            have f1324 : Fld Z h1313 b1313 "com/example/outpost/outpost/service/split/ExactSum" "count" "I" (.int (0 : Int32)) := D1313 (Or.inl (own_hw hw 25 rfl)) (ty := .int) (by decide)
                            refine own_dup X1313 hx 364 rfl (hb hby at_363) rfl ?_
                            refine own_special X1313 hx hZ (y := (⟨"com/example/outpost/outpost/service/split/ExactSum", "<init>", "()V"⟩ : MethodName)) hown rfl (own_hw hw 5 rfl) (own_hw hw 6 rfl) (a := b1313) (by decide) rfl (rm_init l Z a0 hw [] b1313 h1313 n0 z1321 A1313 f1322 f1324 f1323 ge1316) (own_hw hw 7 rfl) (own_hw hw 4 rfl) (by decide) e1313 (by rw [hml]; rfl) [] 1 (by decide) (Nat.le_of_eq rfl) (by decide) (by decide) (lenOf own_pd3 rfl) rfl rfl 367 rfl (hb hby at_364) fun v1325 T1325 Lc1325 X1325 hQ1325 => ?_
                            obtain ⟨rfl, Nq1325, Kq1325, a1325, k1325, sz1325, f1326, f1327, f1328, f1329⟩ := hQ1325
                            have N1330 := Fr.app N995 Nq1325
                            have ne1331 : b949 ≠ a1325 := Nat.ne_of_lt (Nat.lt_of_lt_of_le f1317.lt sz1325)
                            have ne1332 : b968 ≠ a1325 := Nat.ne_of_lt (Nat.lt_of_lt_of_le f1319.lt sz1325)
                            have ne1333 : b1313 ≠ a1325 := Nat.ne_of_lt (Nat.lt_of_lt_of_le A1313.lt sz1325)
                            have ge1334 : n0 ≤ a1325 := Nat.le_trans z1321 sz1325
                            have f1335 := f1317.keep Kq1325
                            have f1336 := f1318.keep Kq1325 (ninS ne1314 nin0)
                            have f1337 := f1319.keep Kq1325
                            have f1338 := f1320.keep Kq1325 (ninS ne1315 nin0)
                            have f1339 := A1313.keep Kq1325
                            have z1343 := Nat.le_trans z1321 Kq1325.1
                            show own_Go _ _ _ _ _ (State.setTop _ (mkF _ 367 _ [(.ref b1313)]))
                            refine own_astore X1325 hx 369 rfl (hb hby at_367) rfl #[.val (.int i0), .val (.int i1), .val (.int i2), .val (.int i3), .val (.int i4), .val (.int (own_sa i3)), .val (.int (own_sb i3)), .val (.int (own_tt i3)), .val (.int f0), .val (.int f1), .val (.int f2), .val (.int (own_pm i4)), .val (.long (own_A i0 (own_sa i3))), .second, .val (.long (own_A i1 (own_sb i3))), .second, .val (.double (own_x0 i0 i3)), .second, .val (.double (own_x1 i1 i3)), .second, .val (.double (own_x2 i2 i3)), .second, .val (.long (a1 + b1)), .second, .val (.double c1), .second, .val (.double (FP.dmul (FP.l2d (((2 : Int64) * (a1 + b1)) + sg)) (4602678819172646912 : UInt64))), .second, .val (.ref b949), .val (.ref b968), .val (.int (2 : Int32)), .val (.int (0 : Int32)), .val (.int (1 : Int32)), .val (.ref b1313)] rfl ?_
                            refine own_aload X1325 hx 371 rfl (hb hby at_369) rfl rfl ?_
                            refine own_aload X1325 hx 373 rfl (hb hby at_371) rfl rfl ?_
                            refine own_iload X1325 hx 375 rfl (hb hby at_373) rfl ?_
                            refine own_ldZ X1325 hx hZ rfl f1338 ⟨by decide, by decide⟩ f2 (congrArg Value.int (own_nar hf2)) 376 rfl (hb hby at_375) ?_
                            refine own_aload X1325 hx 378 rfl (hb hby at_376) rfl rfl ?_
                            refine own_iload X1325 hx 380 rfl (hb hby at_378) rfl ?_
                            refine own_ldD X1325 hx hZ rfl f1336 ⟨by decide, by decide⟩ (own_x2 i2 i3) rfl 381 rfl (hb hby at_380) ?_
                            refine own_callS X1325 hx hZ (y := (⟨"com/example/outpost/outpost/service/split/ExactSumRoundedPinLaw", "addIf", "(Lcom/example/outpost/outpost/service/split/ExactSum;ZD)V"⟩ : MethodName)) hown (own_hw hw 15 rfl) (own_hw hw 16 rfl) (by decide) (rm_if0 l Z a0 hw [] b1313 f2 (own_x2 i2 i3) a1325 k1325 (0 : Int32) (0 : UInt64) (0 : UInt64) (0 : UInt64) (0 : UInt64) (0 : Int) T1325.heap n0 z1343 f1326 f1327 f1328 f1329 ge1316 ge1334 ne1333 (own_x2_f i2 i3) (own_x2_b i2 i3) ⟨rfl, rfl⟩ own_bt0) (own_hw hw 18 rfl) (own_hw hw 17 rfl) (by decide) rfl (by rw [hml]; rfl) [(.ref b1313), (.int f2), (.double (own_x2 i2 i3))] 0 (by decide) (Nat.le_of_eq rfl) (by decide) (by decide) (lenOf own_pd4 rfl) rfl rfl 384 rfl (hb hby at_381) fun v1344 T1344 Lc1344 X1344 hQ1344 => ?_
                            obtain ⟨rfl, Nq1344, Kq1344, c1344, r01344, r11344, r21344, f1345, f1346, f1347, f1348, P1344⟩ := hQ1344
                            have N1349 := Fr.app N1330 Nq1344
                            have f1350 := f1335.keep Kq1344
                            have f1351 := f1336.keep Kq1344 (ninS ne1314 (ninS ne1331 nin0))
                            have f1352 := f1337.keep Kq1344
                            have f1353 := f1338.keep Kq1344 (ninS ne1315 (ninS ne1332 nin0))
                            have f1354 := f1326.keep Kq1344
                            have z1358 := Nat.le_trans z1343 Kq1344.1
                            show own_Go _ _ _ _ _ (State.setTop _ (mkF _ 384 _ []))
                            refine own_aload X1344 hx 386 rfl (hb hby at_384) rfl rfl ?_
                            refine own_aload X1344 hx 388 rfl (hb hby at_386) rfl rfl ?_
                            refine own_iload X1344 hx 390 rfl (hb hby at_388) rfl ?_
                            refine own_ldZ X1344 hx hZ rfl f1353 ⟨by decide, by decide⟩ f0 (congrArg Value.int (own_nar hf0)) 391 rfl (hb hby at_390) ?_
                            refine own_aload X1344 hx 393 rfl (hb hby at_391) rfl rfl ?_
                            refine own_iload X1344 hx 395 rfl (hb hby at_393) rfl ?_
                            refine own_ldD X1344 hx hZ rfl f1351 ⟨by decide, by decide⟩ (own_x0 i0 i3) rfl 396 rfl (hb hby at_395) ?_
                            refine own_callS X1344 hx hZ (y := (⟨"com/example/outpost/outpost/service/split/ExactSumRoundedPinLaw", "addIf", "(Lcom/example/outpost/outpost/service/split/ExactSum;ZD)V"⟩ : MethodName)) hown (own_hw hw 15 rfl) (own_hw hw 16 rfl) (by decide) (rm_if1 l Z a0 hw [] b1313 f0 (own_x0 i0 i3) a1325 k1325 c1344 r01344 r11344 r21344 (0 : UInt64) ((0 : Int) + (own_t f2 (own_x2 i2 i3))) T1344.heap n0 z1358 f1345 f1346 f1347 f1348 ge1316 ge1334 ne1333 (own_x0_f i0 i3) (own_x0_b i0 i3) P1344 (own_bt1 (own_tb f2 (own_x2_b i2 i3)))) (own_hw hw 18 rfl) (own_hw hw 17 rfl) (by decide) rfl (by rw [hml]; rfl) [(.ref b1313), (.int f0), (.double (own_x0 i0 i3))] 0 (by decide) (Nat.le_of_eq rfl) (by decide) (by decide) (lenOf own_pd4 rfl) rfl rfl 399 rfl (hb hby at_396) fun v1359 T1359 Lc1359 X1359 hQ1359 => ?_
                            obtain ⟨rfl, Nq1359, Kq1359, c1359, r01359, r11359, r21359, f1360, f1361, f1362, f1363, P1359⟩ := hQ1359
                            have N1364 := Fr.app N1349 Nq1359
                            have f1365 := f1350.keep Kq1359
                            have f1366 := f1351.keep Kq1359 (ninS ne1314 (ninS ne1331 nin0))
                            have f1367 := f1352.keep Kq1359
                            have f1368 := f1353.keep Kq1359 (ninS ne1315 (ninS ne1332 nin0))
                            have f1369 := f1345.keep Kq1359
                            have z1373 := Nat.le_trans z1358 Kq1359.1
                            show own_Go _ _ _ _ _ (State.setTop _ (mkF _ 399 _ []))
                            refine own_aload X1359 hx 401 rfl (hb hby at_399) rfl rfl ?_
                            refine own_aload X1359 hx 403 rfl (hb hby at_401) rfl rfl ?_
                            refine own_iload X1359 hx 405 rfl (hb hby at_403) rfl ?_
                            refine own_ldZ X1359 hx hZ rfl f1368 ⟨by decide, by decide⟩ f1 (congrArg Value.int (own_nar hf1)) 406 rfl (hb hby at_405) ?_
                            refine own_aload X1359 hx 408 rfl (hb hby at_406) rfl rfl ?_
                            refine own_iload X1359 hx 410 rfl (hb hby at_408) rfl ?_
                            refine own_ldD X1359 hx hZ rfl f1366 ⟨by decide, by decide⟩ (own_x1 i1 i3) rfl 411 rfl (hb hby at_410) ?_
                            refine own_callS X1359 hx hZ (y := (⟨"com/example/outpost/outpost/service/split/ExactSumRoundedPinLaw", "addIf", "(Lcom/example/outpost/outpost/service/split/ExactSum;ZD)V"⟩ : MethodName)) hown (own_hw hw 15 rfl) (own_hw hw 16 rfl) (by decide) (rm_if2 l Z a0 hw [] b1313 f1 (own_x1 i1 i3) a1325 k1325 c1359 r01359 r11359 r21359 (0 : UInt64) (((0 : Int) + (own_t f2 (own_x2 i2 i3))) + (own_t f0 (own_x0 i0 i3))) T1359.heap n0 z1373 f1360 f1361 f1362 f1363 ge1316 ge1334 ne1333 (own_x1_f i1 i3) (own_x1_b i1 i3) P1359 (own_bt2 (own_tb f2 (own_x2_b i2 i3)) (own_tb f0 (own_x0_b i0 i3)))) (own_hw hw 18 rfl) (own_hw hw 17 rfl) (by decide) rfl (by rw [hml]; rfl) [(.ref b1313), (.int f1), (.double (own_x1 i1 i3))] 0 (by decide) (Nat.le_of_eq rfl) (by decide) (by decide) (lenOf own_pd4 rfl) rfl rfl 414 rfl (hb hby at_411) fun v1374 T1374 Lc1374 X1374 hQ1374 => ?_
                            obtain ⟨rfl, Nq1374, Kq1374, c1374, r01374, r11374, r21374, f1375, f1376, f1377, f1378, P1374⟩ := hQ1374
                            have N1379 := Fr.app N1364 Nq1374
                            have f1380 := f1365.keep Kq1374
                            have f1381 := f1366.keep Kq1374 (ninS ne1314 (ninS ne1331 nin0))
                            have f1382 := f1367.keep Kq1374
                            have f1383 := f1368.keep Kq1374 (ninS ne1315 (ninS ne1332 nin0))
                            have f1384 := f1360.keep Kq1374
                            have z1388 := Nat.le_trans z1373 Kq1374.1
                            show own_Go _ _ _ _ _ (State.setTop _ (mkF _ 414 _ []))
                            refine own_aload X1374 hx 416 rfl (hb hby at_414) rfl rfl ?_
                            refine own_virtual X1374 hx hZ (y := (⟨"com/example/outpost/outpost/service/split/ExactSum", "rounded", "()D"⟩ : MethodName)) (z := (⟨"com/example/outpost/outpost/service/split/ExactSum", "rounded", "()D"⟩ : MethodName)) hown (own_hw hw 19 rfl) (own_hw hw 20 rfl) (own_hw hw 22 rfl) (own_hw hw 21 rfl) rfl (a := b1313) f1375 (by decide) (rm_rounded l Z a0 hw [] b1313 a1325 k1325 c1374 r01374 r11374 r21374 (0 : UInt64) ((((0 : Int) + (own_t f2 (own_x2 i2 i3))) + (own_t f0 (own_x0 i0 i3))) + (own_t f1 (own_x1 i1 i3))) T1374.heap n0 z1388 f1376 f1377 f1378 P1374) (own_hw hw 23 rfl) (own_hw hw 4 rfl) (by decide) rfl (by rw [hml]; rfl) [] 0 (by decide) (Nat.le_of_eq rfl) (by decide) (by decide) (lenOf own_pd5 rfl) rfl rfl 419 rfl (hb hby at_416) fun v1389 T1389 Lc1389 X1389 hQ1389 => ?_
                            obtain ⟨d1389, rfl, Nq1389, e1389, fd1389, zd1389⟩ := hQ1389
                            have N1390 := Fr.app N1379 Nq1389
                            show own_Go _ _ _ _ _ (State.setTop _ (mkF _ 419 _ [(.double d1389)]))
                            refine own_dload X1389 hx 421 rfl (hb hby at_419) rfl ?_
                            refine own_dcmp X1389 hx 422 rfl (hb hby at_421) (0 : Int32) (own_end fd1389 zd1389 hE hA hB hc.2.1 (own_p4 _ _ _)) ?_
                            refine own_ifNo X1389 hx 425 rfl (hb hby at_422) (by decide) ?_
                            refine own_iconst X1389 hx 426 rfl (hb hby at_425) (1 : Int32) rfl ?_
                            refine own_goto X1389 hx 430 (hb hby at_426) (by decide) rfl ?_
                            refine own_ret X1389 (some (.int (1 : Int32))) (fun h => by rw [Bd.returns] at h; cases h) Bd.notSynchronized (by decide) (by decide) ?_ (fun fs hr => retN X1389 hx (t := .boolean) Bd.returns (by simp) (hb hby at_430) hr)
                            show Q_rm0 Z i0 i1 i2 i3 i4 h0 n0 _ T1389.heap _
                            rw [e1389]
                            exact ⟨rfl, N1390⟩
                          ·
                            refine own_icmpYes X989 hx 351 (hb hby at_336) (feq hc1312).2 (by decide) rfl ?_
                            refine own_iconst X989 hx 352 rfl (hb hby at_351) (2 : Int32) rfl ?_
                            refine own_istore X989 hx 354 rfl (hb hby at_352) #[.val (.int i0), .val (.int i1), .val (.int i2), .val (.int i3), .val (.int i4), .val (.int (own_sa i3)), .val (.int (own_sb i3)), .val (.int (own_tt i3)), .val (.int f0), .val (.int f1), .val (.int f2), .val (.int (own_pm i4)), .val (.long (own_A i0 (own_sa i3))), .second, .val (.long (own_A i1 (own_sb i3))), .second, .val (.double (own_x0 i0 i3)), .second, .val (.double (own_x1 i1 i3)), .second, .val (.double (own_x2 i2 i3)), .second, .val (.long (a1 + b1)), .second, .val (.double c1), .second, .val (.double (FP.dmul (FP.l2d (((2 : Int64) * (a1 + b1)) + sg)) (4602678819172646912 : UInt64))), .second, .val (.ref b949), .val (.ref b968), .val (.int (2 : Int32)), .unset, .unset, .unset] rfl ?_
                            refine own_iconst X989 hx 355 rfl (hb hby at_354) (1 : Int32) rfl ?_
                            refine own_istore X989 hx 357 rfl (hb hby at_355) #[.val (.int i0), .val (.int i1), .val (.int i2), .val (.int i3), .val (.int i4), .val (.int (own_sa i3)), .val (.int (own_sb i3)), .val (.int (own_tt i3)), .val (.int f0), .val (.int f1), .val (.int f2), .val (.int (own_pm i4)), .val (.long (own_A i0 (own_sa i3))), .second, .val (.long (own_A i1 (own_sb i3))), .second, .val (.double (own_x0 i0 i3)), .second, .val (.double (own_x1 i1 i3)), .second, .val (.double (own_x2 i2 i3)), .second, .val (.long (a1 + b1)), .second, .val (.double c1), .second, .val (.double (FP.dmul (FP.l2d (((2 : Int64) * (a1 + b1)) + sg)) (4602678819172646912 : UInt64))), .second, .val (.ref b949), .val (.ref b968), .val (.int (2 : Int32)), .val (.int (1 : Int32)), .unset, .unset] rfl ?_
                            refine own_iconst X989 hx 358 rfl (hb hby at_357) (0 : Int32) rfl ?_
                            refine own_istore X989 hx 360 rfl (hb hby at_358) #[.val (.int i0), .val (.int i1), .val (.int i2), .val (.int i3), .val (.int i4), .val (.int (own_sa i3)), .val (.int (own_sb i3)), .val (.int (own_tt i3)), .val (.int f0), .val (.int f1), .val (.int f2), .val (.int (own_pm i4)), .val (.long (own_A i0 (own_sa i3))), .second, .val (.long (own_A i1 (own_sb i3))), .second, .val (.double (own_x0 i0 i3)), .second, .val (.double (own_x1 i1 i3)), .second, .val (.double (own_x2 i2 i3)), .second, .val (.long (a1 + b1)), .second, .val (.double c1), .second, .val (.double (FP.dmul (FP.l2d (((2 : Int64) * (a1 + b1)) + sg)) (4602678819172646912 : UInt64))), .second, .val (.ref b949), .val (.ref b968), .val (.int (2 : Int32)), .val (.int (1 : Int32)), .val (.int (0 : Int32)), .unset] rfl ?_
                            refine own_new X989 hx hZ hown (own_hw hw 2 rfl) (own_hw hw 3 rfl) (own_hw hw 4 rfl) e989 363 rfl (hb hby at_360) (by decide) (by decide) fun T1391 h1391 b1391 g1391 X1391 e1391 E1391 A1391 D1391 => ?_
                            have ne1392 : b949 ≠ b1391 := Nat.ne_of_lt (Nat.lt_of_lt_of_le f991.lt (Nat.le_of_eq g1391.symm))
                            have ne1393 : b968 ≠ b1391 := Nat.ne_of_lt (Nat.lt_of_lt_of_le f993.lt (Nat.le_of_eq g1391.symm))
                            have ge1394 : n0 ≤ b1391 := Nat.le_trans z994 (Nat.le_of_eq g1391.symm)
                            have f1395 := f991.ext E1391
                            have f1396 := f992.ext E1391
                            have f1397 := f993.ext E1391
                            have f1398 := f990.ext E1391
                            have z1399 := Nat.le_trans z994 E1391.1
                            have f1400 : Fld Z h1391 b1391 "com/example/outpost/outpost/service/split/ExactSum" "parts" "[D" .null := D1391 (Or.inl (own_hw hw 12 rfl)) (ty := (.array .double)) (by decide)
                            have f1401 : Fld Z h1391 b1391 "com/example/outpost/outpost/service/split/ExactSum" "scratch" "[D" .null := D1391 (Or.inl (own_hw hw 14 rfl)) (ty := (.array .double)) (by decide)
                            have f1402 : Fld Z h1391 b1391 "com/example/outpost/outpost/service/split/ExactSum" "count" "I" (.int (0 : Int32)) := D1391 (Or.inl (own_hw hw 25 rfl)) (ty := .int) (by decide)
                            refine own_dup X1391 hx 364 rfl (hb hby at_363) rfl ?_
                            refine own_special X1391 hx hZ (y := (⟨"com/example/outpost/outpost/service/split/ExactSum", "<init>", "()V"⟩ : MethodName)) hown rfl (own_hw hw 5 rfl) (own_hw hw 6 rfl) (a := b1391) (by decide) rfl (rm_init l Z a0 hw [] b1391 h1391 n0 z1399 A1391 f1400 f1402 f1401 ge1394) (own_hw hw 7 rfl) (own_hw hw 4 rfl) (by decide) e1391 (by rw [hml]; rfl) [] 1 (by decide) (Nat.le_of_eq rfl) (by decide) (by decide) (lenOf own_pd3 rfl) rfl rfl 367 rfl (hb hby at_364) fun v1403 T1403 Lc1403 X1403 hQ1403 => ?_
                            obtain ⟨rfl, Nq1403, Kq1403, a1403, k1403, sz1403, f1404, f1405, f1406, f1407⟩ := hQ1403
                            have N1408 := Fr.app N995 Nq1403
                            have ne1409 : b949 ≠ a1403 := Nat.ne_of_lt (Nat.lt_of_lt_of_le f1395.lt sz1403)
                            have ne1410 : b968 ≠ a1403 := Nat.ne_of_lt (Nat.lt_of_lt_of_le f1397.lt sz1403)
                            have ne1411 : b1391 ≠ a1403 := Nat.ne_of_lt (Nat.lt_of_lt_of_le A1391.lt sz1403)
                            have ge1412 : n0 ≤ a1403 := Nat.le_trans z1399 sz1403
                            have f1413 := f1395.keep Kq1403
                            have f1414 := f1396.keep Kq1403 (ninS ne1392 nin0)
                            have f1415 := f1397.keep Kq1403
                            have f1416 := f1398.keep Kq1403 (ninS ne1393 nin0)
                            have f1417 := A1391.keep Kq1403
                            have z1421 := Nat.le_trans z1399 Kq1403.1
                            show own_Go _ _ _ _ _ (State.setTop _ (mkF _ 367 _ [(.ref b1391)]))
                            refine own_astore X1403 hx 369 rfl (hb hby at_367) rfl #[.val (.int i0), .val (.int i1), .val (.int i2), .val (.int i3), .val (.int i4), .val (.int (own_sa i3)), .val (.int (own_sb i3)), .val (.int (own_tt i3)), .val (.int f0), .val (.int f1), .val (.int f2), .val (.int (own_pm i4)), .val (.long (own_A i0 (own_sa i3))), .second, .val (.long (own_A i1 (own_sb i3))), .second, .val (.double (own_x0 i0 i3)), .second, .val (.double (own_x1 i1 i3)), .second, .val (.double (own_x2 i2 i3)), .second, .val (.long (a1 + b1)), .second, .val (.double c1), .second, .val (.double (FP.dmul (FP.l2d (((2 : Int64) * (a1 + b1)) + sg)) (4602678819172646912 : UInt64))), .second, .val (.ref b949), .val (.ref b968), .val (.int (2 : Int32)), .val (.int (1 : Int32)), .val (.int (0 : Int32)), .val (.ref b1391)] rfl ?_
                            refine own_aload X1403 hx 371 rfl (hb hby at_369) rfl rfl ?_
                            refine own_aload X1403 hx 373 rfl (hb hby at_371) rfl rfl ?_
                            refine own_iload X1403 hx 375 rfl (hb hby at_373) rfl ?_
                            refine own_ldZ X1403 hx hZ rfl f1416 ⟨by decide, by decide⟩ f2 (congrArg Value.int (own_nar hf2)) 376 rfl (hb hby at_375) ?_
                            refine own_aload X1403 hx 378 rfl (hb hby at_376) rfl rfl ?_
                            refine own_iload X1403 hx 380 rfl (hb hby at_378) rfl ?_
                            refine own_ldD X1403 hx hZ rfl f1414 ⟨by decide, by decide⟩ (own_x2 i2 i3) rfl 381 rfl (hb hby at_380) ?_
                            refine own_callS X1403 hx hZ (y := (⟨"com/example/outpost/outpost/service/split/ExactSumRoundedPinLaw", "addIf", "(Lcom/example/outpost/outpost/service/split/ExactSum;ZD)V"⟩ : MethodName)) hown (own_hw hw 15 rfl) (own_hw hw 16 rfl) (by decide) (rm_if0 l Z a0 hw [] b1391 f2 (own_x2 i2 i3) a1403 k1403 (0 : Int32) (0 : UInt64) (0 : UInt64) (0 : UInt64) (0 : UInt64) (0 : Int) T1403.heap n0 z1421 f1404 f1405 f1406 f1407 ge1394 ge1412 ne1411 (own_x2_f i2 i3) (own_x2_b i2 i3) ⟨rfl, rfl⟩ own_bt0) (own_hw hw 18 rfl) (own_hw hw 17 rfl) (by decide) rfl (by rw [hml]; rfl) [(.ref b1391), (.int f2), (.double (own_x2 i2 i3))] 0 (by decide) (Nat.le_of_eq rfl) (by decide) (by decide) (lenOf own_pd4 rfl) rfl rfl 384 rfl (hb hby at_381) fun v1422 T1422 Lc1422 X1422 hQ1422 => ?_
                            obtain ⟨rfl, Nq1422, Kq1422, c1422, r01422, r11422, r21422, f1423, f1424, f1425, f1426, P1422⟩ := hQ1422
                            have N1427 := Fr.app N1408 Nq1422
                            have f1428 := f1413.keep Kq1422
                            have f1429 := f1414.keep Kq1422 (ninS ne1392 (ninS ne1409 nin0))
                            have f1430 := f1415.keep Kq1422
                            have f1431 := f1416.keep Kq1422 (ninS ne1393 (ninS ne1410 nin0))
                            have f1432 := f1404.keep Kq1422
                            have z1436 := Nat.le_trans z1421 Kq1422.1
                            show own_Go _ _ _ _ _ (State.setTop _ (mkF _ 384 _ []))
                            refine own_aload X1422 hx 386 rfl (hb hby at_384) rfl rfl ?_
                            refine own_aload X1422 hx 388 rfl (hb hby at_386) rfl rfl ?_
                            refine own_iload X1422 hx 390 rfl (hb hby at_388) rfl ?_
                            refine own_ldZ X1422 hx hZ rfl f1431 ⟨by decide, by decide⟩ f1 (congrArg Value.int (own_nar hf1)) 391 rfl (hb hby at_390) ?_
                            refine own_aload X1422 hx 393 rfl (hb hby at_391) rfl rfl ?_
                            refine own_iload X1422 hx 395 rfl (hb hby at_393) rfl ?_
                            refine own_ldD X1422 hx hZ rfl f1429 ⟨by decide, by decide⟩ (own_x1 i1 i3) rfl 396 rfl (hb hby at_395) ?_
                            refine own_callS X1422 hx hZ (y := (⟨"com/example/outpost/outpost/service/split/ExactSumRoundedPinLaw", "addIf", "(Lcom/example/outpost/outpost/service/split/ExactSum;ZD)V"⟩ : MethodName)) hown (own_hw hw 15 rfl) (own_hw hw 16 rfl) (by decide) (rm_if1 l Z a0 hw [] b1391 f1 (own_x1 i1 i3) a1403 k1403 c1422 r01422 r11422 r21422 (0 : UInt64) ((0 : Int) + (own_t f2 (own_x2 i2 i3))) T1422.heap n0 z1436 f1423 f1424 f1425 f1426 ge1394 ge1412 ne1411 (own_x1_f i1 i3) (own_x1_b i1 i3) P1422 (own_bt1 (own_tb f2 (own_x2_b i2 i3)))) (own_hw hw 18 rfl) (own_hw hw 17 rfl) (by decide) rfl (by rw [hml]; rfl) [(.ref b1391), (.int f1), (.double (own_x1 i1 i3))] 0 (by decide) (Nat.le_of_eq rfl) (by decide) (by decide) (lenOf own_pd4 rfl) rfl rfl 399 rfl (hb hby at_396) fun v1437 T1437 Lc1437 X1437 hQ1437 => ?_
                            obtain ⟨rfl, Nq1437, Kq1437, c1437, r01437, r11437, r21437, f1438, f1439, f1440, f1441, P1437⟩ := hQ1437
                            have N1442 := Fr.app N1427 Nq1437
                            have f1443 := f1428.keep Kq1437
                            have f1444 := f1429.keep Kq1437 (ninS ne1392 (ninS ne1409 nin0))
                            have f1445 := f1430.keep Kq1437
                            have f1446 := f1431.keep Kq1437 (ninS ne1393 (ninS ne1410 nin0))
                            have f1447 := f1423.keep Kq1437
                            have z1451 := Nat.le_trans z1436 Kq1437.1
                            show own_Go _ _ _ _ _ (State.setTop _ (mkF _ 399 _ []))
                            refine own_aload X1437 hx 401 rfl (hb hby at_399) rfl rfl ?_
                            refine own_aload X1437 hx 403 rfl (hb hby at_401) rfl rfl ?_
                            refine own_iload X1437 hx 405 rfl (hb hby at_403) rfl ?_
                            refine own_ldZ X1437 hx hZ rfl f1446 ⟨by decide, by decide⟩ f0 (congrArg Value.int (own_nar hf0)) 406 rfl (hb hby at_405) ?_
                            refine own_aload X1437 hx 408 rfl (hb hby at_406) rfl rfl ?_
                            refine own_iload X1437 hx 410 rfl (hb hby at_408) rfl ?_
                            refine own_ldD X1437 hx hZ rfl f1444 ⟨by decide, by decide⟩ (own_x0 i0 i3) rfl 411 rfl (hb hby at_410) ?_
                            refine own_callS X1437 hx hZ (y := (⟨"com/example/outpost/outpost/service/split/ExactSumRoundedPinLaw", "addIf", "(Lcom/example/outpost/outpost/service/split/ExactSum;ZD)V"⟩ : MethodName)) hown (own_hw hw 15 rfl) (own_hw hw 16 rfl) (by decide) (rm_if2 l Z a0 hw [] b1391 f0 (own_x0 i0 i3) a1403 k1403 c1437 r01437 r11437 r21437 (0 : UInt64) (((0 : Int) + (own_t f2 (own_x2 i2 i3))) + (own_t f1 (own_x1 i1 i3))) T1437.heap n0 z1451 f1438 f1439 f1440 f1441 ge1394 ge1412 ne1411 (own_x0_f i0 i3) (own_x0_b i0 i3) P1437 (own_bt2 (own_tb f2 (own_x2_b i2 i3)) (own_tb f1 (own_x1_b i1 i3)))) (own_hw hw 18 rfl) (own_hw hw 17 rfl) (by decide) rfl (by rw [hml]; rfl) [(.ref b1391), (.int f0), (.double (own_x0 i0 i3))] 0 (by decide) (Nat.le_of_eq rfl) (by decide) (by decide) (lenOf own_pd4 rfl) rfl rfl 414 rfl (hb hby at_411) fun v1452 T1452 Lc1452 X1452 hQ1452 => ?_
                            obtain ⟨rfl, Nq1452, Kq1452, c1452, r01452, r11452, r21452, f1453, f1454, f1455, f1456, P1452⟩ := hQ1452
                            have N1457 := Fr.app N1442 Nq1452
                            have f1458 := f1443.keep Kq1452
                            have f1459 := f1444.keep Kq1452 (ninS ne1392 (ninS ne1409 nin0))
                            have f1460 := f1445.keep Kq1452
                            have f1461 := f1446.keep Kq1452 (ninS ne1393 (ninS ne1410 nin0))
                            have f1462 := f1438.keep Kq1452
                            have z1466 := Nat.le_trans z1451 Kq1452.1
                            show own_Go _ _ _ _ _ (State.setTop _ (mkF _ 414 _ []))
                            refine own_aload X1452 hx 416 rfl (hb hby at_414) rfl rfl ?_
                            refine own_virtual X1452 hx hZ (y := (⟨"com/example/outpost/outpost/service/split/ExactSum", "rounded", "()D"⟩ : MethodName)) (z := (⟨"com/example/outpost/outpost/service/split/ExactSum", "rounded", "()D"⟩ : MethodName)) hown (own_hw hw 19 rfl) (own_hw hw 20 rfl) (own_hw hw 22 rfl) (own_hw hw 21 rfl) rfl (a := b1391) f1453 (by decide) (rm_rounded l Z a0 hw [] b1391 a1403 k1403 c1452 r01452 r11452 r21452 (0 : UInt64) ((((0 : Int) + (own_t f2 (own_x2 i2 i3))) + (own_t f1 (own_x1 i1 i3))) + (own_t f0 (own_x0 i0 i3))) T1452.heap n0 z1466 f1454 f1455 f1456 P1452) (own_hw hw 23 rfl) (own_hw hw 4 rfl) (by decide) rfl (by rw [hml]; rfl) [] 0 (by decide) (Nat.le_of_eq rfl) (by decide) (by decide) (lenOf own_pd5 rfl) rfl rfl 419 rfl (hb hby at_416) fun v1467 T1467 Lc1467 X1467 hQ1467 => ?_
                            obtain ⟨d1467, rfl, Nq1467, e1467, fd1467, zd1467⟩ := hQ1467
                            have N1468 := Fr.app N1457 Nq1467
                            show own_Go _ _ _ _ _ (State.setTop _ (mkF _ 419 _ [(.double d1467)]))
                            refine own_dload X1467 hx 421 rfl (hb hby at_419) rfl ?_
                            refine own_dcmp X1467 hx 422 rfl (hb hby at_421) (0 : Int32) (own_end fd1467 zd1467 hE hA hB hc.2.1 (own_p5 _ _ _)) ?_
                            refine own_ifNo X1467 hx 425 rfl (hb hby at_422) (by decide) ?_
                            refine own_iconst X1467 hx 426 rfl (hb hby at_425) (1 : Int32) rfl ?_
                            refine own_goto X1467 hx 430 (hb hby at_426) (by decide) rfl ?_
                            refine own_ret X1467 (some (.int (1 : Int32))) (fun h => by rw [Bd.returns] at h; cases h) Bd.notSynchronized (by decide) (by decide) ?_ (fun fs hr => retN X1467 hx (t := .boolean) Bd.returns (by simp) (hb hby at_430) hr)
                            show Q_rm0 Z i0 i1 i2 i3 i4 h0 n0 _ T1467.heap _
                            rw [e1467]
                            exact ⟨rfl, N1468⟩
                refine own_dload X0 hx 181 rfl (hb hby at_179) rfl ?_
                refine own_dconst0 X0 hx 182 rfl (hb hby at_181) ?_
                refine own_dcmp X0 hx 183 rfl (hb hby at_182) _ rfl ?_
                by_cases hc1469 : 0 < cmpValue (FP.dcmp c1 FP.dconst0) .l
                ·
                  refine own_ifNo X0 hx 186 rfl (hb hby at_183) ((if0 _ _).trans (tlt hc1469).2.2.2) ?_
                  refine own_lconst X0 hx 187 rfl (hb hby at_186) (1 : Int64) rfl ?_
                  refine own_goto X0 hx 204 (hb hby at_187) (by decide) rfl ?_
                  exact J204 _ (Or.inl ⟨(own_sgGt hc.1 .l).mp hc1469, by decide⟩)
                ·
                  refine own_ifYes X0 hx 190 (hb hby at_183) ((if0 _ _).trans (flt hc1469).2.2.2) (by decide) rfl ?_
                  refine own_dload X0 hx 192 rfl (hb hby at_190) rfl ?_
                  refine own_dconst0 X0 hx 193 rfl (hb hby at_192) ?_
                  refine own_dcmp X0 hx 194 rfl (hb hby at_193) _ rfl ?_
                  by_cases hc1470 : cmpValue (FP.dcmp c1 FP.dconst0) .g < 0
                  ·
                    refine own_ifNo X0 hx 197 rfl (hb hby at_194) ((if0 _ _).trans (tlt hc1470).2.1) ?_
                    refine own_ldcJ X0 hx hZ hown (own_hw hw 44 rfl) 200 rfl (hb hby at_197) ?_
                    refine own_goto X0 hx 204 (hb hby at_200) (by decide) rfl ?_
                    exact J204 _ (Or.inr (Or.inl ⟨(own_sgLt hc.1 .g).mp hc1470, by decide⟩))
                  ·
                    refine own_ifYes X0 hx 203 (hb hby at_194) ((if0 _ _).trans (flt hc1470).2.1) (by decide) rfl ?_
                    refine own_lconst X0 hx 204 rfl (hb hby at_203) (0 : Int64) rfl ?_
                    exact J204 _ (Or.inr (Or.inr ⟨Int.le_antisymm (Int.not_lt.mp fun z => hc1469 ((own_sgGt hc.1 .l).mpr z)) (Int.not_lt.mp fun z => hc1470 ((own_sgLt hc.1 .g).mpr z)), by decide⟩))
            refine own_iload X0 hx 147 rfl (hb hby at_145) rfl ?_
            by_cases hc1471 : f2 = (0 : Int32)
            ·
              refine own_ifYes X0 hx 155 (hb hby at_147) ((if0 _ _).trans (teq hc1471).1) (by decide) rfl ?_
              refine own_dconst0 X0 hx 156 rfl (hb hby at_155) ?_
              exact J156 _ (own_hc0 hc1471)
            ·
              refine own_ifNo X0 hx 150 rfl (hb hby at_147) ((if0 _ _).trans (feq hc1471).1) ?_
              refine own_dload X0 hx 152 rfl (hb hby at_150) rfl ?_
              refine own_goto X0 hx 156 (hb hby at_152) (by decide) rfl ?_
              exact J156 _ (own_hc1 hc1471)
          show own_Go _ _ _ _ _ (State.setTop _ (mkF _ 131 _ [(.long a1)]))
          refine own_iload X0 hx 133 rfl (hb hby at_131) rfl ?_
          by_cases hc1472 : f1 = (0 : Int32)
          ·
            refine own_ifYes X0 hx 141 (hb hby at_133) ((if0 _ _).trans (teq hc1472).1) (by decide) rfl ?_
            refine own_lconst X0 hx 142 rfl (hb hby at_141) (0 : Int64) rfl ?_
            exact J142 _ (own_hA0 hc1472)
          ·
            refine own_ifNo X0 hx 136 rfl (hb hby at_133) ((if0 _ _).trans (feq hc1472).1) ?_
            refine own_lload X0 hx 138 rfl (hb hby at_136) rfl ?_
            refine own_goto X0 hx 142 (hb hby at_138) (by decide) rfl ?_
            exact J142 _ (own_hA1 hc1472 (own_x1_z i1 i3) (own_A1_b i1 i3))
        refine own_iload X0 hx 122 rfl (hb hby at_120) rfl ?_
        by_cases hc1473 : f0 = (0 : Int32)
        ·
          refine own_ifYes X0 hx 130 (hb hby at_122) ((if0 _ _).trans (teq hc1473).1) (by decide) rfl ?_
          refine own_lconst X0 hx 131 rfl (hb hby at_130) (0 : Int64) rfl ?_
          exact J131 _ (own_hA0 hc1473)
        ·
          refine own_ifNo X0 hx 125 rfl (hb hby at_122) ((if0 _ _).trans (feq hc1473).1) ?_
          refine own_lload X0 hx 127 rfl (hb hby at_125) rfl ?_
          refine own_goto X0 hx 131 (hb hby at_127) (by decide) rfl ?_
          exact J131 _ (own_hA1 hc1473 (own_x0_z i0 i3) (own_A0_b i0 i3))
      refine own_iload X0 hx 65 rfl (hb hby at_63) rfl ?_
      refine own_iconst X0 hx 66 rfl (hb hby at_65) (4 : Int32) rfl ?_
      refine own_iand X0 hx 67 rfl (hb hby at_66) _ rfl ?_
      by_cases hc1474 : (i4 &&& (4 : Int32)) = (0 : Int32)
      ·
        refine own_ifYes X0 hx 74 (hb hby at_67) ((if0 _ _).trans (teq hc1474).1) (by decide) rfl ?_
        refine own_iconst X0 hx 75 rfl (hb hby at_74) (0 : Int32) rfl ?_
        exact J75 _ (Or.inl rfl)
      ·
        refine own_ifNo X0 hx 70 rfl (hb hby at_67) ((if0 _ _).trans (feq hc1474).1) ?_
        refine own_iconst X0 hx 71 rfl (hb hby at_70) (1 : Int32) rfl ?_
        refine own_goto X0 hx 75 (hb hby at_71) (by decide) rfl ?_
        exact J75 _ (Or.inr rfl)
    refine own_iload X0 hx 51 rfl (hb hby at_49) rfl ?_
    refine own_iconst X0 hx 52 rfl (hb hby at_51) (2 : Int32) rfl ?_
    refine own_iand X0 hx 53 rfl (hb hby at_52) _ rfl ?_
    by_cases hc1475 : (i4 &&& (2 : Int32)) = (0 : Int32)
    ·
      refine own_ifYes X0 hx 60 (hb hby at_53) ((if0 _ _).trans (teq hc1475).1) (by decide) rfl ?_
      refine own_iconst X0 hx 61 rfl (hb hby at_60) (0 : Int32) rfl ?_
      exact J61 _ (Or.inl rfl)
    ·
      refine own_ifNo X0 hx 56 rfl (hb hby at_53) ((if0 _ _).trans (feq hc1475).1) ?_
      refine own_iconst X0 hx 57 rfl (hb hby at_56) (1 : Int32) rfl ?_
      refine own_goto X0 hx 61 (hb hby at_57) (by decide) rfl ?_
      exact J61 _ (Or.inr rfl)
  show own_Go _ _ _ _ _ (State.setTop _ (mkF _ 35 #[.val (.int i0), .val (.int i1), .val (.int i2), .val (.int i3), .val (.int i4), .val (.int (own_sa i3)), .val (.int (own_sb i3)), .val (.int (own_tt i3)), .unset, .unset, .unset, .unset, .unset, .unset, .unset, .unset, .unset, .unset, .unset, .unset, .unset, .unset, .unset, .unset, .unset, .unset, .unset, .unset, .unset, .unset, .unset, .unset, .unset, .unset] []))
  refine own_iload X0 hx 37 rfl (hb hby at_35) rfl ?_
  refine own_iconst X0 hx 38 rfl (hb hby at_37) (1 : Int32) rfl ?_
  refine own_iand X0 hx 39 rfl (hb hby at_38) _ rfl ?_
  by_cases hc1476 : (i4 &&& (1 : Int32)) = (0 : Int32)
  ·
    refine own_ifYes X0 hx 46 (hb hby at_39) ((if0 _ _).trans (teq hc1476).1) (by decide) rfl ?_
    refine own_iconst X0 hx 47 rfl (hb hby at_46) (0 : Int32) rfl ?_
    exact J47 _ (Or.inl rfl)
  ·
    refine own_ifNo X0 hx 42 rfl (hb hby at_39) ((if0 _ _).trans (feq hc1476).1) ?_
    refine own_iconst X0 hx 43 rfl (hb hby at_42) (1 : Int32) rfl ?_
    refine own_goto X0 hx 47 (hb hby at_43) (by decide) rfl ?_
    exact J47 _ (Or.inr rfl)
set_option maxRecDepth 65536 in
set_option maxHeartbeats 40000000 in
theorem comes_1 {Post : Tables → Env → Array Value → State → Outcome → State → Prop} (hpost : ∀ tb e args s v u, (limb_1_1.after args s (.returned v) u = true ∧ limb_1_2.after args s (.returned v) u = true ∧ True) → FrameEnd s (.returned v) u (Jvm.fieldLocs frame_1_writes args s ++ Jvm.arrayLocs frame_1_arrays args s ++ Jvm.staticLocs frame_1_statics s) 24 128 → Post tb e args s (.returned v) u) :
    ArmFor flags0 classFile x code maxLocals ret World_1 tables_1 room_1 Calls_1 rest_1 Pre_1 Post := by
  intro l hfl _ _ p e ha hc hk s m args below hf hA hF happ hP
  obtain ⟨hcalls, hrest, hpre⟩ := hP
  obtain ⟨-, -, -, hnamed, -, -, -, hat⟩ := (Spec.applies_iff hf).mp happ
  obtain ⟨hg, hn⟩ := and_e (Cond.before_iff.mp (show (Jvm.Cond.and given_1 narrow_1).before args s = true from hpre))
  obtain ⟨hcount, hg1⟩ := and_e hg
  obtain ⟨ha0, hgr0⟩ := and_e hg1
  obtain ⟨ha1, hgr1⟩ := and_e hgr0
  obtain ⟨ha2, hgr2⟩ := and_e hgr1
  obtain ⟨ha3, hgr3⟩ := and_e hgr2
  obtain ⟨w0, w1, w2, w3, w4, rfl⟩ : ∃ w0 w1 w2 w3 w4 : Value, args = #[w0, w1, w2, w3, w4] := by
    have hs : args.size = 5 := by simpa [Cond.value, given_1] using hcount
    obtain ⟨L⟩ := args
    match L, hs with
    | [w0, w1, w2, w3, w4], _ => exact ⟨w0, w1, w2, w3, w4, rfl⟩
  have hw := fun d (hd : d ∈ tables_1) => atoms_spec (ws := Jvm.Cond.code x code maxLocals ret :: tables_1) hat d (List.mem_cons_of_mem _ hd)
  have hfit : Fit s := fun {y c} hc i hi => by
    obtain ⟨ha, rfl⟩ := Array.getElem?_eq_some_iff.mp hc
    have q := List.all_eq_true.mp ((Array.all_eq_true_iff_forall_mem.mp hF) _ (Array.getElem_mem ha)) i (List.mem_range.mpr hi)
    simpa [Array.getElem?_eq_getElem hi] using q
  obtain ⟨i0, ei0⟩ := is_v ha0
  obtain rfl : w0 = (.int i0) := Option.some.inj ei0
  obtain ⟨i1, ei1⟩ := is_v ha1
  obtain rfl : w1 = (.int i1) := Option.some.inj ei1
  obtain ⟨i2, ei2⟩ := is_v ha2
  obtain rfl : w2 = (.int i2) := Option.some.inj ei2
  obtain ⟨i3, ei3⟩ := is_v ha3
  obtain rfl : w3 = (.int i3) := Option.some.inj ei3
  obtain ⟨i4, ei4⟩ := is_v hgr3
  obtain rfl : w4 = (.int i4) := Option.some.inj ei4
  obtain ⟨n, o, h1, h2, h3, _, L, rfl, ⟨rfl, N⟩, hq⟩ := rm0 l s _ hw tables_1 i0 i1 i2 i3 i4 s.heap s.heap.size (Nat.le_refl _)  p e ha hc hk s m _ below hf ((Spec.applies_iff_loose hf).mp happ).1 ⟨rfl, State.Warmed39.refl s, rfl⟩ trivial
  refine ⟨n, _, h1, h2, h3, hpost _ _ _ _ _ _ ⟨Cond.after_iff.mpr rfl, Cond.after_iff.mpr (eq_i res_at (Term.int_eval (1)) rfl), trivial⟩ ⟨hq.1, hq.2.1, (hq.2.2.sift fun y hy => Or.inr (N y hy)).mono (by decide) (by decide)⟩⟩
theorem main_1_1 : Claimed_1_1 := comes_1 fun _ _ _ _ _ _ h hF => ⟨h.1, hF⟩
theorem main_1_2 : Claimed_1_2 := comes_1 fun _ _ _ _ _ _ h hF => ⟨h.2.1, hF⟩
end Jvm.Pilot.@@N@@
namespace Jvm.Pilot.@@N@@
open Jvm Jvm.ClassFile Sem Op Lib Jvm.Free Jvm.Stand Jvm.Pilot.@@N@@.Jvm.D
/-! MADE BY PROGRAM (witnessworld.py) out of the Statement's table words and the real class files: 14 classes; the members and pool entries that the words name. The judged class is class 1, her method 2. -/
namespace start1
open Jvm.ClassFile
def u (s : String) : CpInfo := .utf8 (stringToUtf16 s)
/-- a pool by its gaps: so many unusable entries, then the entry; so many at the end -/
def gap : Nat → List CpInfo → List CpInfo
  | 0, r => r
  | n + 1, r => .unusable :: gap n r
def poolList (es : List (Nat × CpInfo)) (last : Nat) : List CpInfo := es.foldr (fun e r => gap e.1 (e.2 :: r)) (gap last [])
def pool (es : List (Nat × CpInfo)) (last : Nat) : Array CpInfo := ⟨poolList es last⟩
def fileOf (pool : Array CpInfo) (this : Nat) (attrs : Array Attribute := #[]) (ms : Array MethodInfo := #[]) (fl : Nat := 33) (sup : Nat := 0) (ifs : Array Nat := #[]) (fds : Array FieldInfo := #[]) : ClassFile where
  minorVersion := 0
  majorVersion := 65
  constantPool := pool
  accessFlags := fl
  thisClass := this
  superClass := sup
  interfaces := ifs
  fields := fds
  methods := ms
  attributes := attrs
def plain (name : String) (sup : Option ClassId) : Class where
  name := name
  kind := .ordinary
  loader := none
  accessFlags := 33
  super := sup
  interfaces := #[]
  cf := none
  fields := #[]
  methods := #[]
  instanceTypes := #[]
  staticTypes := #[]
  resolved := #[]
  callSites := []
  init := .initialized
  statics := none
  mirror := none

def pool0 : Array CpInfo := pool [(5, u "<init>"), (0, u "()V"), (1, .class_ 10), (1, u "java/lang/Object")] 113

def k0c0 : Code := { maxStack := 0, maxLocals := 1, code := object_method_1_code, exceptionTable := #[], attributes := #[] }
def k0m0 : Method := { name := "<init>", desc := "()V", sig := { parameters := [], returnType := none }, accessFlags := 1, code := some k0c0 }
/-- java/lang/Object -/
def k0 : Class := { plain "java/lang/Object" none with
  accessFlags := 33
  interfaces := #[]
  cf := some (fileOf pool0 8 #[] #[{ accessFlags := 1, nameIndex := 5, descriptorIndex := 6, attributes := #[] }] 33 0 #[] #[])
  fields := #[]
  methods := #[k0m0]
  instanceTypes := #[]
  staticTypes := #[]
  resolved := Array.replicate 124 none
  statics := none }

def pool1 : Array CpInfo := pool [(2, .class_ 4), (0, .nameAndType 5 6), (0, u "java/lang/Object"), (0, u "<init>"), (0, u "()V"), (0, .methodref 8 9), (0, .class_ 10), (0, .nameAndType 11 12), (0, u "com/example/outpost/outpost/service/split/ExactSum"), (0, u "add"), (0, u "(D)V"), (0, .long 18446744073709551615), (1, .long 2), (1, .double 4602678819172646912), (1, .methodref 8 3), (0, .methodref 21 22), (0, .class_ 23), (0, .nameAndType 24 25), (0, u "com/example/outpost/outpost/service/split/ExactSumRoundedPinLaw"), (0, u "addIf"), (0, u "(Lcom/example/outpost/outpost/service/split/ExactSum;ZD)V"), (0, .methodref 8 27), (0, .nameAndType 28 29), (0, u "rounded"), (0, u "()D"), (3, u "law"), (0, u "(IIIII)Z")] 6

def k1m0 : Method := { name := "<init>", desc := "()V", sig := { parameters := [], returnType := none }, accessFlags := 1, code := none }
def k1c1 : Code := { maxStack := 3, maxLocals := 4, code := method_2_code, exceptionTable := #[], attributes := #[] }
def k1m1 : Method := { name := "addIf", desc := "(Lcom/example/outpost/outpost/service/split/ExactSum;ZD)V", sig := { parameters := [(.object "com/example/outpost/outpost/service/split/ExactSum"), .boolean, .double], returnType := none }, accessFlags := 10, code := some k1c1 }
def k1c2 : Code := { maxStack := 5, maxLocals := 34, code := code, exceptionTable := #[], attributes := #[] }
def k1m2 : Method := { name := "law", desc := "(IIIII)Z", sig := { parameters := [.int, .int, .int, .int, .int], returnType := some .boolean }, accessFlags := 9, code := some k1c2 }
/-- com/example/outpost/outpost/service/split/ExactSumRoundedPinLaw -/
def k1 : Class := { plain "com/example/outpost/outpost/service/split/ExactSumRoundedPinLaw" (some 0) with
  accessFlags := 49
  interfaces := #[]
  cf := some (fileOf pool1 21 #[] #[{ accessFlags := 1, nameIndex := 5, descriptorIndex := 6, attributes := #[] }, { accessFlags := 10, nameIndex := 24, descriptorIndex := 25, attributes := #[] }, { accessFlags := 9, nameIndex := 33, descriptorIndex := 34, attributes := #[] }] 49 2 #[] #[])
  fields := #[]
  methods := #[k1m0, k1m1, k1m2]
  instanceTypes := #[]
  staticTypes := #[]
  resolved := Array.replicate 41 none
  statics := none }

def pool2 : Array CpInfo := pool [(1, .methodref 2 3), (0, .class_ 4), (0, .nameAndType 5 6), (0, u "java/lang/Object"), (0, u "<init>"), (0, u "()V"), (0, .fieldref 8 9), (0, .class_ 10), (0, .nameAndType 11 12), (0, u "com/example/outpost/outpost/service/split/ExactSum"), (0, u "parts"), (0, u "[D"), (0, .fieldref 8 14), (0, .nameAndType 15 12), (0, u "scratch"), (0, .fieldref 8 17), (0, .nameAndType 18 19), (0, u "count"), (0, u "I"), (6, .methodref 8 27), (0, .nameAndType 28 29), (0, u "add"), (0, u "([DID)I"), (0, .methodref 8 31), (0, .nameAndType 32 33), (0, u "rounded"), (0, u "([DI)D"), (6, .methodref 41 42), (0, .class_ 43), (0, .nameAndType 44 45), (0, u "java/lang/Math"), (0, u "abs"), (0, u "(D)D"), (0, .double 4611686018427387904), (4, u "(D)V"), (1, u "()D")] 4

def k2c0 : Code := { maxStack := 2, maxLocals := 1, code := prog_126_method_1_code, exceptionTable := #[], attributes := #[] }
def k2m0 : Method := { name := "<init>", desc := "()V", sig := { parameters := [], returnType := none }, accessFlags := 0, code := some k2c0 }
def k2c1 : Code := { maxStack := 5, maxLocals := 3, code := prog_126_method_3_code, exceptionTable := #[], attributes := #[] }
def k2m1 : Method := { name := "add", desc := "(D)V", sig := { parameters := [.double], returnType := none }, accessFlags := 0, code := some k2c1 }
def k2c2 : Code := { maxStack := 2, maxLocals := 1, code := prog_126_method_4_code, exceptionTable := #[], attributes := #[] }
def k2m2 : Method := { name := "rounded", desc := "()D", sig := { parameters := [], returnType := some .double }, accessFlags := 0, code := some k2c2 }
def k2c3 : Code := { maxStack := 6, maxLocals := 14, code := prog_126_method_6_code, exceptionTable := #[], attributes := #[] }
def k2m3 : Method := { name := "add", desc := "([DID)I", sig := { parameters := [(.array .double), .int, .double], returnType := some .int }, accessFlags := 10, code := some k2c3 }
def k2c4 : Code := { maxStack := 6, maxLocals := 11, code := prog_126_method_7_code, exceptionTable := #[], attributes := #[] }
def k2m4 : Method := { name := "rounded", desc := "([DI)D", sig := { parameters := [(.array .double), .int], returnType := some .double }, accessFlags := 10, code := some k2c4 }
/-- com/example/outpost/outpost/service/split/ExactSum -/
def k2 : Class := { plain "com/example/outpost/outpost/service/split/ExactSum" (some 0) with
  accessFlags := 48
  interfaces := #[]
  cf := some (fileOf pool2 8 #[] #[{ accessFlags := 0, nameIndex := 5, descriptorIndex := 6, attributes := #[] }, { accessFlags := 0, nameIndex := 28, descriptorIndex := 51, attributes := #[] }, { accessFlags := 0, nameIndex := 32, descriptorIndex := 53, attributes := #[] }, { accessFlags := 10, nameIndex := 28, descriptorIndex := 29, attributes := #[] }, { accessFlags := 10, nameIndex := 32, descriptorIndex := 33, attributes := #[] }] 48 2 #[] #[{ accessFlags := 2, nameIndex := 11, descriptorIndex := 12, attributes := #[] }, { accessFlags := 2, nameIndex := 18, descriptorIndex := 19, attributes := #[] }, { accessFlags := 2, nameIndex := 15, descriptorIndex := 12, attributes := #[] }])
  fields := #[{ name := "parts", type := (.array .double), accessFlags := 2, slot := 0, constantValue := 0 }, { name := "count", type := .int, accessFlags := 2, slot := 1, constantValue := 0 }, { name := "scratch", type := (.array .double), accessFlags := 2, slot := 2, constantValue := 0 }]
  methods := #[k2m0, k2m1, k2m2, k2m3, k2m4]
  instanceTypes := #[(.array .double), .int, (.array .double)]
  staticTypes := #[]
  resolved := Array.replicate 58 none
  statics := none }

def pool3 : Array CpInfo := pool [(1, .class_ 2), (0, u "java/lang/Math"), (1, .class_ 6), (1, u "java/lang/Object"), (0, u "<init>"), (0, u "()V"), (5, u "(D)D"), (83, .class_ 100), (1, u "java/lang/Math$RandomNumberGeneratorHolder"), (23, u "abs"), (47, u "negativeZeroFloatBits"), (0, u "J"), (2, u "negativeZeroDoubleBits"), (68, u "$assertionsDisabled"), (0, u "Z"), (91, u "twoToTheDoubleScaleDown"), (0, u "D"), (4, u "twoToTheDoubleScaleUp"), (9, u "E"), (3, u "PI"), (2, u "TAU"), (2, u "DEGREES_TO_RADIANS"), (0, u "RADIANS_TO_DEGREES")] 94

def k3m0 : Method := { name := "<init>", desc := "()V", sig := { parameters := [], returnType := none }, accessFlags := 2, code := none }
def k3c1 : Code := { maxStack := 4, maxLocals := 2, code := jdk_29_method_64_code, exceptionTable := #[], attributes := #[] }
def k3m1 : Method := { name := "abs", desc := "(D)D", sig := { parameters := [.double], returnType := some .double }, accessFlags := 9, code := some k3c1 }
/-- java/lang/Math -/
def k3 : Class := { plain "java/lang/Math" (some 0) with
  accessFlags := 49
  interfaces := #[]
  cf := some (fileOf pool3 1 #[.nestMembers #[98]] #[{ accessFlags := 2, nameIndex := 7, descriptorIndex := 8, attributes := #[] }, { accessFlags := 9, nameIndex := 124, descriptorIndex := 14, attributes := #[] }] 49 4 #[] #[{ accessFlags := 25, nameIndex := 354, descriptorIndex := 339, attributes := #[] }, { accessFlags := 25, nameIndex := 358, descriptorIndex := 339, attributes := #[] }, { accessFlags := 25, nameIndex := 361, descriptorIndex := 339, attributes := #[] }, { accessFlags := 26, nameIndex := 364, descriptorIndex := 339, attributes := #[] }, { accessFlags := 26, nameIndex := 365, descriptorIndex := 339, attributes := #[] }, { accessFlags := 26, nameIndex := 172, descriptorIndex := 173, attributes := #[] }, { accessFlags := 26, nameIndex := 176, descriptorIndex := 173, attributes := #[] }, { accessFlags := 8, nameIndex := 344, descriptorIndex := 339, attributes := #[] }, { accessFlags := 8, nameIndex := 338, descriptorIndex := 339, attributes := #[] }, { accessFlags := 4120, nameIndex := 245, descriptorIndex := 246, attributes := #[] }])
  fields := #[{ name := "E", type := .double, accessFlags := 25, slot := 0, constantValue := 0 }, { name := "PI", type := .double, accessFlags := 25, slot := 1, constantValue := 0 }, { name := "TAU", type := .double, accessFlags := 25, slot := 2, constantValue := 0 }, { name := "DEGREES_TO_RADIANS", type := .double, accessFlags := 26, slot := 3, constantValue := 0 }, { name := "RADIANS_TO_DEGREES", type := .double, accessFlags := 26, slot := 4, constantValue := 0 }, { name := "negativeZeroFloatBits", type := .long, accessFlags := 26, slot := 5, constantValue := 0 }, { name := "negativeZeroDoubleBits", type := .long, accessFlags := 26, slot := 6, constantValue := 0 }, { name := "twoToTheDoubleScaleUp", type := .double, accessFlags := 8, slot := 7, constantValue := 0 }, { name := "twoToTheDoubleScaleDown", type := .double, accessFlags := 8, slot := 8, constantValue := 0 }, { name := "$assertionsDisabled", type := .boolean, accessFlags := 4120, slot := 9, constantValue := 0 }]
  methods := #[k3m0, k3m1]
  instanceTypes := #[]
  staticTypes := #[.double, .double, .double, .double, .double, .long, .long, .double, .double, .boolean]
  resolved := Array.replicate 460 none
  statics := none }

def pool4 : Array CpInfo := pool [(1, u "java/lang/Cloneable"), (0, .class_ 1), (0, u "java/lang/Object"), (0, .class_ 3)] 3

/-- java/lang/Cloneable -/
def k4 : Class := { plain "java/lang/Cloneable" (some 0) with
  accessFlags := 1537
  interfaces := #[]
  cf := some (fileOf pool4 2 #[] #[] 1537 4 #[] #[])
  fields := #[]
  methods := #[]
  instanceTypes := #[]
  staticTypes := #[]
  resolved := Array.replicate 8 none
  statics := none }

def pool5 : Array CpInfo := pool [(1, u "java/io/Serializable"), (0, .class_ 1), (0, u "java/lang/Object"), (0, .class_ 3)] 3

/-- java/io/Serializable -/
def k5 : Class := { plain "java/io/Serializable" (some 0) with
  accessFlags := 1537
  interfaces := #[]
  cf := some (fileOf pool5 2 #[] #[] 1537 4 #[] #[])
  fields := #[]
  methods := #[]
  instanceTypes := #[]
  staticTypes := #[]
  resolved := Array.replicate 8 none
  statics := none }

/-- the primitive boolean -/
def k6 : Class := { plain "boolean" none with kind := .primitive 'Z', accessFlags := 0x411 }
/-- [Z -/
def k7 : Class := { plain "[Z" (some 0) with kind := .array 6 .boolean, interfaces := #[4, 5], accessFlags := 1041 }

/-- the primitive byte -/
def k8 : Class := { plain "byte" none with kind := .primitive 'B', accessFlags := 0x411 }
/-- [B -/
def k9 : Class := { plain "[B" (some 0) with kind := .array 8 .byte, interfaces := #[4, 5], accessFlags := 1041 }

/-- the primitive double -/
def k10 : Class := { plain "double" none with kind := .primitive 'D', accessFlags := 0x411 }
/-- [D -/
def k11 : Class := { plain "[D" (some 0) with kind := .array 10 .double, interfaces := #[4, 5], accessFlags := 1041 }

/-- the primitive int -/
def k12 : Class := { plain "int" none with kind := .primitive 'I', accessFlags := 0x411 }
/-- [I -/
def k13 : Class := { plain "[I" (some 0) with kind := .array 12 .int, interfaces := #[4, 5], accessFlags := 1041 }

def heap : Heap := #[]
def classes : Array Class := #[k0, k1, k2, k3, k4, k5, k6, k7, k8, k9, k10, k11, k12, k13]
def interned : List (Array UInt16 × Addr) := []
def slotsUsed : Nat := 0
def theMethod : MethodId := ⟨1, 2⟩
def args0 : Array Value := #[.int 5, .int 5, .int 5, .int 5, .int 5]
def aboutOver (below : List Frame) : State where
  vm := { classes := classes, interned := interned.toArray }
  heap := heap
  slotsUsed := slotsUsed
  threads := #[{ frames := .invoking theMethod args0 :: below }]
def below0 : List Frame := [.native { method := ⟨0, 0⟩, args := #[] }]
def about1 : State := aboutOver below0
def p0 : Program := .bare "" "" ""
def e0 : Env := launch0.env 0 0 0
theorem w_frames : about1.frames = Frame.invoking theMethod args0 :: below0 := rfl
set_option maxRecDepth 65536 in
theorem w_args : argsFit about1.vm theMethod args0 = true := by decide +kernel
set_option maxRecDepth 65536 in
theorem w_heap : heapFits about1 = true := by decide +kernel
set_option maxRecDepth 65536 in
theorem w_runnable : about1.curStatus? = some .runnable := by decide +kernel
set_option maxRecDepth 65536 in
theorem w_alone : about1.alone = true := by decide +kernel
set_option maxRecDepth 65536 in
theorem w_named : about1.methodNamed? x = some theMethod := by decide +kernel
set_option maxRecDepth 65536 in
theorem w_hears : about1.hears theMethod below0 = true := by decide +kernel
set_option maxRecDepth 65536 in
theorem w_ripe : about1.ripe theMethod args0 below0 = true := by decide +kernel
theorem w_running : about1.status = .running := rfl
set_option maxRecDepth 65536 in
theorem w_room : about1.hasRoom e0.platform room_1 = true :=
  launch0.hasRoom_least _ room_1 (by decide +kernel) (by decide +kernel) (by decide +kernel) (by decide +kernel) (by decide +kernel) (by decide +kernel)
theorem allAtoms_all (ts : List Jvm.Cond) (a : Array Jvm.Value) (st : Jvm.State) : (allAtoms ts).before a st = ts.all (fun c => c.before a st) := by
  induction ts with
  | nil => rfl
  | cons c t ih =>
    show (Jvm.Cond.and c (allAtoms t)).before a st = _
    rw [Jvm.Cond.before_and, ih, List.all_cons]
def words1 : List Jvm.Cond := Jvm.Cond.code x code maxLocals ret :: tables_1
/-- a 'code' word, met by the world's own term for the bytes: nothing is compared byte by byte -/
theorem code_word {y : MethodName} {bytes : ByteArray} {mx : Nat} {rt : Option FieldType} {a : Array Value} {s : State} {m : MethodId} {meth : Method} {c : Code} (h1 : s.methodNamed? y = some m) (h2 : s.vm.method? m = some meth) (h3 : meth.code = some c) (h4 : c.code = bytes)
    (h5 : (c.maxLocals == mx && c.exceptionTable.isEmpty && decide (c.maxStack ≤ mostOperands) && decide (meth.sig.returnType = rt) && !meth.locks && decide (parseMethodDescriptor y.desc = some meth.sig)) = true) : (Jvm.Cond.code y bytes mx rt).before a s = true := by
  simp only [Bool.and_eq_true, beq_iff_eq, Bool.not_eq_true', decide_eq_true_eq] at h5
  obtain ⟨⟨⟨⟨⟨g1, g2⟩, g3⟩, g4⟩, g5⟩, g6⟩ := h5
  simp [Cond.before, Cond.holds, Cond.value, h1, h2, h3, h4, g1, g2, g3, g4, g5, g6]
def isCode : Jvm.Cond → Bool
  | .code _ _ _ _ => true
  | _ => false
theorem all_split {L : List Jvm.Cond} {P : Jvm.Cond → Bool} (h1 : L.all (fun c => isCode c || P c) = true) (h2 : ∀ c ∈ L.filter isCode, P c = true) : L.all P = true := by
  refine List.all_eq_true.mpr fun c hc => ?_
  have h := List.all_eq_true.mp h1 c hc
  rcases Bool.eq_false_or_eq_true (isCode c) with hi | hi
  · exact h2 c (List.mem_filter.mpr ⟨hc, hi⟩)
  · simpa [hi] using h
set_option maxRecDepth 65536 in
theorem w_c0 : (Jvm.Cond.code x code maxLocals ret).before args0 about1 = true := code_word (m := ⟨1, 2⟩) (meth := k1m2) (c := k1c2) (by decide +kernel) rfl rfl rfl (by decide +kernel)
set_option maxRecDepth 65536 in
theorem w_c1 : (Jvm.Cond.code ({ cls := "com/example/outpost/outpost/service/split/ExactSum", name := "<init>", desc := "()V" } : Jvm.MethodName) prog_126_method_1_code (1 : Nat) (Option.none : Option Jvm.ClassFile.FieldType)).before args0 about1 = true := code_word (m := ⟨2, 0⟩) (meth := k2m0) (c := k2c0) (by decide +kernel) rfl rfl rfl (by decide +kernel)
set_option maxRecDepth 65536 in
theorem w_c2 : (Jvm.Cond.code ({ cls := "java/lang/Object", name := "<init>", desc := "()V" } : Jvm.MethodName) object_method_1_code (1 : Nat) (Option.none : Option Jvm.ClassFile.FieldType)).before args0 about1 = true := code_word (m := ⟨0, 0⟩) (meth := k0m0) (c := k0c0) (by decide +kernel) rfl rfl rfl (by decide +kernel)
set_option maxRecDepth 65536 in
theorem w_c3 : (Jvm.Cond.code ({ cls := "com/example/outpost/outpost/service/split/ExactSumRoundedPinLaw", name := "addIf", desc := "(Lcom/example/outpost/outpost/service/split/ExactSum;ZD)V" } : Jvm.MethodName) method_2_code (4 : Nat) (Option.none : Option Jvm.ClassFile.FieldType)).before args0 about1 = true := code_word (m := ⟨1, 1⟩) (meth := k1m1) (c := k1c1) (by decide +kernel) rfl rfl rfl (by decide +kernel)
set_option maxRecDepth 65536 in
theorem w_c4 : (Jvm.Cond.code ({ cls := "com/example/outpost/outpost/service/split/ExactSum", name := "rounded", desc := "()D" } : Jvm.MethodName) prog_126_method_4_code (1 : Nat) (Option.some Jvm.ClassFile.FieldType.double)).before args0 about1 = true := code_word (m := ⟨2, 2⟩) (meth := k2m2) (c := k2c2) (by decide +kernel) rfl rfl rfl (by decide +kernel)
set_option maxRecDepth 65536 in
theorem w_c5 : (Jvm.Cond.code ({ cls := "com/example/outpost/outpost/service/split/ExactSum", name := "rounded", desc := "([DI)D" } : Jvm.MethodName) prog_126_method_7_code (11 : Nat) (Option.some Jvm.ClassFile.FieldType.double)).before args0 about1 = true := code_word (m := ⟨2, 4⟩) (meth := k2m4) (c := k2c4) (by decide +kernel) rfl rfl rfl (by decide +kernel)
set_option maxRecDepth 65536 in
theorem w_c6 : (Jvm.Cond.code ({ cls := "com/example/outpost/outpost/service/split/ExactSum", name := "add", desc := "(D)V" } : Jvm.MethodName) prog_126_method_3_code (3 : Nat) (Option.none : Option Jvm.ClassFile.FieldType)).before args0 about1 = true := code_word (m := ⟨2, 1⟩) (meth := k2m1) (c := k2c1) (by decide +kernel) rfl rfl rfl (by decide +kernel)
set_option maxRecDepth 65536 in
theorem w_c7 : (Jvm.Cond.code ({ cls := "com/example/outpost/outpost/service/split/ExactSum", name := "add", desc := "([DID)I" } : Jvm.MethodName) prog_126_method_6_code (14 : Nat) (Option.some Jvm.ClassFile.FieldType.int)).before args0 about1 = true := code_word (m := ⟨2, 3⟩) (meth := k2m3) (c := k2c3) (by decide +kernel) rfl rfl rfl (by decide +kernel)
set_option maxRecDepth 65536 in
theorem w_c8 : (Jvm.Cond.code ({ cls := "java/lang/Math", name := "abs", desc := "(D)D" } : Jvm.MethodName) jdk_29_method_64_code (2 : Nat) (Option.some Jvm.ClassFile.FieldType.double)).before args0 about1 = true := code_word (m := ⟨3, 1⟩) (meth := k3m1) (c := k3c1) (by decide +kernel) rfl rfl rfl (by decide +kernel)
def codes1 : List Jvm.Cond := [Jvm.Cond.code x code maxLocals ret, Jvm.Cond.code ({ cls := "com/example/outpost/outpost/service/split/ExactSum", name := "<init>", desc := "()V" } : Jvm.MethodName) prog_126_method_1_code (1 : Nat) (Option.none : Option Jvm.ClassFile.FieldType), Jvm.Cond.code ({ cls := "java/lang/Object", name := "<init>", desc := "()V" } : Jvm.MethodName) object_method_1_code (1 : Nat) (Option.none : Option Jvm.ClassFile.FieldType), Jvm.Cond.code ({ cls := "com/example/outpost/outpost/service/split/ExactSumRoundedPinLaw", name := "addIf", desc := "(Lcom/example/outpost/outpost/service/split/ExactSum;ZD)V" } : Jvm.MethodName) method_2_code (4 : Nat) (Option.none : Option Jvm.ClassFile.FieldType), Jvm.Cond.code ({ cls := "com/example/outpost/outpost/service/split/ExactSum", name := "rounded", desc := "()D" } : Jvm.MethodName) prog_126_method_4_code (1 : Nat) (Option.some Jvm.ClassFile.FieldType.double), Jvm.Cond.code ({ cls := "com/example/outpost/outpost/service/split/ExactSum", name := "rounded", desc := "([DI)D" } : Jvm.MethodName) prog_126_method_7_code (11 : Nat) (Option.some Jvm.ClassFile.FieldType.double), Jvm.Cond.code ({ cls := "com/example/outpost/outpost/service/split/ExactSum", name := "add", desc := "(D)V" } : Jvm.MethodName) prog_126_method_3_code (3 : Nat) (Option.none : Option Jvm.ClassFile.FieldType), Jvm.Cond.code ({ cls := "com/example/outpost/outpost/service/split/ExactSum", name := "add", desc := "([DID)I" } : Jvm.MethodName) prog_126_method_6_code (14 : Nat) (Option.some Jvm.ClassFile.FieldType.int), Jvm.Cond.code ({ cls := "java/lang/Math", name := "abs", desc := "(D)D" } : Jvm.MethodName) jdk_29_method_64_code (2 : Nat) (Option.some Jvm.ClassFile.FieldType.double)]
set_option maxRecDepth 65536 in
theorem codes_eq : words1.filter isCode = codes1 := rfl
theorem w_codes : ∀ c ∈ words1.filter isCode, c.before args0 about1 = true := by
  rw [codes_eq]
  intro c hc
  simp only [codes1, List.mem_cons, List.not_mem_nil, or_false] at hc
  rcases hc with rfl | rfl | rfl | rfl | rfl | rfl | rfl | rfl | rfl
  · exact w_c0
  · exact w_c1
  · exact w_c2
  · exact w_c3
  · exact w_c4
  · exact w_c5
  · exact w_c6
  · exact w_c7
  · exact w_c8
set_option maxRecDepth 65536 in
theorem w_t1 : (words1.take 24).all (fun c => isCode c || c.before args0 about1) = true := by decide +kernel
set_option maxRecDepth 65536 in
theorem w_t2 : (words1.drop 24).all (fun c => isCode c || c.before args0 about1) = true := by decide +kernel
theorem w_tables : (allAtoms (Jvm.Cond.code x code maxLocals ret :: tables_1)).before args0 about1 = true := by
  rw [allAtoms_all]
  show words1.all (fun c => c.before args0 about1) = true
  refine all_split ?_ w_codes
  rw [← List.take_append_drop 24 words1, List.all_append, w_t1, w_t2]
  rfl
set_option maxRecDepth 65536 in
theorem w_case : (Jvm.Cond.and given_1 narrow_1).before args0 about1 = true := by decide +kernel
theorem w_applies : (headSpec (Jvm.Cond.code x code maxLocals ret :: tables_1) room_1).applies x e0.platform about1 = true :=
  (Spec.applies_iff w_frames).mpr ⟨w_running, w_runnable, w_alone, w_named, w_hears, w_ripe, w_room, w_tables⟩
theorem atStart : AtStart classFile x code maxLocals ret World_1 tables_1 room_1 Calls_1 rest_1 Pre_1 launch0 p0 e0 about1 theMethod args0 below0 :=
  ⟨lists_1, trivial, launch0.admits_env _ _ _, launch0.least_env, fairChoices_fair.cas, fairChoices_fair.clock, w_frames, w_args, w_heap, w_applies, trivial, trivial, w_case⟩
end start1
theorem witness_1 : WitnessClaimed_1 := ⟨start1.p0, start1.e0, start1.about1, start1.theMethod, start1.args0, start1.below0, start1.atStart⟩
end Jvm.Pilot.@@N@@
