import JvmDerived
import JvmDerived.Pilot.@@N@@Statement
import JvmDerived.Pilot.@@N@@Code
set_option linter.unusedVariables false
set_option linter.unusedSimpArgs false
namespace Jvm.OwnFl
open Jvm.FP.Core
/-- the value of a double that is no NaN, counted in units of the least double -/
def own_z (x : UInt64) : Int := zval b64 (val64 x)
/-- how many of those units make 1 -/
def own_pw (n : Nat) : Nat := if h : n = 0 then 1 else 2 * own_pw (n - 1)
termination_by n
decreasing_by omega
theorem own_pw_eq (n : Nat) : own_pw n = 2 ^ n := by
  induction n with
  | zero => rw [own_pw]; rfl
  | succ k ih => rw [own_pw, dif_neg (Nat.succ_ne_zero k), Nat.add_sub_cancel, ih, Nat.pow_succ, Nat.mul_comm]
def own_U : Nat := own_pw 1074
theorem own_U_eq : own_U = 2 ^ 1074 := own_pw_eq 1074
theorem own_U_pos : (0 : Int) < (own_U : Int) := Int.natCast_pos.mpr (own_U_eq ▸ Nat.two_pow_pos 1074)
/-- a whole number of units that is a finite double -/
def own_rep (z : Int) : Prop := ∃ (c : Int) (j : Nat), z = c * ((2 ^ j : Nat) : Int) ∧ c.natAbs < 2 ^ 53 ∧ j ≤ 2045
theorem own_signed (c : Int) : signed (decide (c < 0)) c.natAbs = c := by
  unfold signed
  by_cases h : c < 0
  · simp only [h, decide_true, if_true]; omega
  · simp only [h, decide_false, Bool.false_eq_true, if_false]; omega
theorem own_datum {z : Int} (h : own_rep z) : ∃ s c q, Jvm.FP.Core.fits b64 (.fin s c q) ∧ zval b64 (.fin s c q) = z := by
  obtain ⟨c, j, rfl, hc, hj⟩ := h
  have hm : b64.qmax = 971 := by decide
  have hq := qmin_b64
  obtain ⟨c', q', h1, h2⟩ := round_exact good_b64 (decide (c < 0)) (c := c.natAbs) (q := b64.qmin + (j : Int)) hc (by omega) (by omega)
  refine ⟨_, c', q', h1 ▸ round_fits good_b64 _, ?_⟩
  show signed (decide (c < 0)) (inUnits c' q' b64.qmin) = _
  rw [h2]
  unfold inUnits
  rw [show (b64.qmin + (j : Int) - b64.qmin).toNat = j by omega, signed_mul, own_signed]
theorem own_top {z : Int} (h : own_rep z) : z.natAbs < 2 ^ 2098 := by
  obtain ⟨c, j, rfl, hc, hj⟩ := h
  rw [Int.natAbs_mul, Int.natAbs_natCast]
  have h1 : 2 ^ j ≤ 2 ^ 2045 := Nat.pow_le_pow_right (by decide) hj
  have h2 : c.natAbs * 2 ^ j ≤ c.natAbs * 2 ^ 2045 := Nat.mul_le_mul_left _ h1
  have h3 : c.natAbs * 2 ^ 2045 < 2 ^ 53 * 2 ^ 2045 := Nat.mul_lt_mul_of_pos_right hc (Nat.two_pow_pos _)
  have h4 : (2 : Nat) ^ 53 * 2 ^ 2045 = 2 ^ 2098 := (Nat.pow_add 2 53 2045).symm
  rw [h4] at h3
  exact Nat.lt_of_le_of_lt h2 h3
theorem own_fin_of {x : UInt64} {z : Int} (hn : val64 x ≠ .nan) (hz : own_z x = z) (h : own_rep z) : DFin x := by
  cases hv : val64 x with
  | nan => exact absurd hv hn
  | inf s =>
    exfalso
    have e : own_z x = signed s (b64.tails * 2 ^ (b64.exps - 2)) := by unfold own_z; rw [hv]; rfl
    have l := own_top h
    rw [← hz, e, natAbs_signed] at l
    have t : b64.tails * 2 ^ (b64.exps - 2) = 2 ^ 2098 := by
      rw [tails_b64, show b64.exps - 2 = 2046 by decide]
      exact (Nat.pow_add 2 52 2046).symm
    rw [t] at l
    exact Nat.lt_irrefl _ l
  | fin s c q => exact ⟨s, c, q, hv⟩
theorem own_round_nn (s : Bool) (c : Nat) (q : Int) : round b64 (.fin s c q) ≠ .nan := roundRatio_ne_nan b64 s c 1 q
theorem own_add {x y : UInt64} (hx : DFin x) (hy : DFin y) (h : own_rep (own_z x + own_z y)) : DFin (dadd x y) ∧ own_z (dadd x y) = own_z x + own_z y := by
  obtain ⟨s, c, q, fV, zV⟩ := own_datum h
  have e : own_z (dadd x y) = own_z x + own_z y := by
    show zval b64 (val64 (dadd x y)) = _
    rw [val64_dadd]
    have h1 := sum_le good_b64 hx hy (val64_fits x) (val64_fits y) fV (fun q => Datum.noConfusion q) (Int.le_of_eq zV.symm)
    have h2 := sum_ge good_b64 hx hy (val64_fits x) (val64_fits y) fV (fun q => Datum.noConfusion q) (Int.le_of_eq zV)
    rw [zV] at h1 h2
    exact Int.le_antisymm h1 h2
  refine ⟨own_fin_of ?_ e h, e⟩
  rw [val64_dadd]
  obtain ⟨s1, c1, q1, e1⟩ := hx
  obtain ⟨s2, c2, q2, e2⟩ := hy
  rw [e1, e2]
  exact own_round_nn _ _ _
theorem own_neg {x : UInt64} (hx : DFin x) : DFin (dneg x) ∧ own_z (dneg x) = - own_z x := by
  obtain ⟨s, c, q, e⟩ := hx
  constructor
  · exact ⟨!s, c, q, by rw [val64_dneg, e]; rfl⟩
  · show zval b64 (val64 (dneg x)) = _
    rw [val64_dneg, zval_negate]; rfl
theorem own_sub {x y : UInt64} (hx : DFin x) (hy : DFin y) (h : own_rep (own_z x - own_z y)) : DFin (dsub x y) ∧ own_z (dsub x y) = own_z x - own_z y := by
  obtain ⟨n1, n2⟩ := own_neg hy
  have e : own_z x + own_z (dneg y) = own_z x - own_z y := by rw [n2]; omega
  have k := own_add hx n1 (e ▸ h)
  rw [dsub_eq]
  exact ⟨k.1, k.2.trans e⟩
theorem own_signed_mul2 (s t : Bool) (a b : Nat) : signed (s != t) (a * b) = signed s a * signed t b := by
  cases s <;> cases t <;> simp [signed, Int.natCast_mul, Int.neg_mul, Int.mul_neg]
theorem own_mul {x y : UInt64} {z : Int} (hx : DFin x) (hy : DFin y) (h : own_rep z) (e : own_z x * own_z y = z * (own_U : Int)) : DFin (dmul x y) ∧ own_z (dmul x y) = z := by
  obtain ⟨s, c, q, e1⟩ := hx
  obtain ⟨t, d, r, e2⟩ := hy
  obtain ⟨s', c', q', fV, zV⟩ := own_datum h
  have f1 : Jvm.FP.Core.fits b64 (.fin s c q) := e1 ▸ val64_fits x
  have f2 : Jvm.FP.Core.fits b64 (.fin t d r) := e2 ▸ val64_fits y
  obtain ⟨p1, p2, p3⟩ := product_units f1 f2
  have u1 : own_z x = signed s (zmag b64 (.fin s c q)) := by unfold own_z; rw [e1]; rfl
  have u2 : own_z y = signed t (zmag b64 (.fin t d r)) := by unfold own_z; rw [e2]; rfl
  have hs : signed (s != t) (inUnits (c * d) (q + r) (2 * b64.qmin)) = zval b64 (.fin s' c' q') * ((2 ^ (b64.qmin - 2 * b64.qmin).toNat : Nat) : Int) := by
    rw [p3, own_signed_mul2, ← u1, ← u2, e, zV, show (b64.qmin - 2 * b64.qmin).toNat = 1074 by rw [qmin_b64]; rfl, own_U_eq]
  have hq := qmin_b64
  have k : own_z (dmul x y) = z := by
    show zval b64 (val64 (dmul x y)) = _
    rw [val64_dmul, e1, e2, p1]
    have h1 := zval_round_le good_b64 (s := (s != t)) (c := c * d) (q := q + r) (e0 := 2 * b64.qmin) fV (fun q => Datum.noConfusion q) (by omega) p2 (Int.le_of_eq hs)
    have h2 := zval_round_ge good_b64 (s := (s != t)) (c := c * d) (q := q + r) (e0 := 2 * b64.qmin) fV (fun q => Datum.noConfusion q) (by omega) p2 (Int.le_of_eq hs.symm)
    rw [zV] at h1 h2
    exact Int.le_antisymm h1 h2
  refine ⟨own_fin_of ?_ k h, k⟩
  rw [val64_dmul, e1, e2, p1]
  exact own_round_nn _ _ _
theorem own_nonneg {s : Bool} {m : Nat} (h : 0 ≤ signed s m) : signed s m = (m : Int) := by
  cases s
  · rfl
  · simp only [signed, if_true] at h ⊢; omega
theorem own_pos_sign {s : Bool} {m : Nat} (h : 0 < signed s m) : s = false := by
  cases s
  · rfl
  · simp only [signed, if_true] at h; omega
/-- the quotient of two finite doubles, the divisor not nought -/
theorem own_quot {x y : UInt64} {s t : Bool} {c d : Nat} {q r : Int} (e1 : val64 x = .fin s c q) (e2 : val64 y = .fin t d r) (hd : d ≠ 0) : val64 (ddiv x y) = roundRatio b64 (s != t) c d (q - r) := by
  rw [val64_ddiv, e1, e2]
  unfold quotient
  exact if_neg hd
theorem own_zmag_ne {t : Bool} {d : Nat} {r : Int} (h : signed t (zmag b64 (.fin t d r)) ≠ 0) : d ≠ 0 := by
  intro e
  apply h
  subst e
  show signed t (inUnits 0 r b64.qmin) = 0
  unfold inUnits
  rw [Nat.zero_mul]
  exact signed_zero t
theorem own_pow_shift {A B u v u' v' : Nat} (h : A * 2 ^ u = B * 2 ^ v) (he : u + v' = u' + v) : A * 2 ^ u' = B * 2 ^ v' := by
  refine Nat.eq_of_mul_eq_mul_right (Nat.two_pow_pos v) ?_
  calc A * 2 ^ u' * 2 ^ v = A * 2 ^ (u' + v) := by rw [Nat.mul_assoc, ← Nat.pow_add]
    _ = A * 2 ^ (u + v') := by rw [he]
    _ = A * 2 ^ u * 2 ^ v' := by rw [Nat.mul_assoc, ← Nat.pow_add]
    _ = B * 2 ^ v * 2 ^ v' := by rw [h]
    _ = B * 2 ^ v' * 2 ^ v := by ac_rfl
theorem own_zv {x : UInt64} {s : Bool} {c : Nat} {q : Int} (e : val64 x = .fin s c q) : own_z x = signed s (c * 2 ^ (q - b64.qmin).toNat) := by
  unfold own_z; rw [e]; rfl
theorem own_c0 {s : Bool} {c k : Nat} (h : signed s (c * 2 ^ k) = 0) : c = 0 := by
  rw [signed_eq_zero] at h
  rcases Nat.mul_eq_zero.mp h with h | h
  · exact h
  · have := Nat.two_pow_pos k; omega
theorem own_rr0 (s : Bool) (B : Nat) (e : Int) : zval b64 (roundRatio b64 s 0 B e) = 0 := by
  unfold roundRatio
  rw [if_pos rfl]
  show signed s (inUnits 0 b64.qmin b64.qmin) = 0
  unfold inUnits
  rw [Nat.zero_mul]
  exact signed_zero s
/-- two quotients of one value, none negative -/
theorem own_div_congr {x y x' y' : UInt64} (hx : DFin x) (hy : DFin y) (hx' : DFin x') (hy' : DFin y') (px : 0 ≤ own_z x) (py : 0 < own_z y) (px' : 0 ≤ own_z x') (py' : 0 < own_z y')
    (h : own_z x * own_z y' = own_z x' * own_z y) : own_z (ddiv x y) = own_z (ddiv x' y') := by
  obtain ⟨s, c, q, e1⟩ := hx
  obtain ⟨t, d, r, e2⟩ := hy
  obtain ⟨s', c', q', e1'⟩ := hx'
  obtain ⟨t', d', r', e2'⟩ := hy'
  have f1 : b64.qmin ≤ q := (e1 ▸ val64_fits x : Jvm.FP.Core.fits b64 (.fin s c q)).2.1
  have f2 : b64.qmin ≤ r := (e2 ▸ val64_fits y : Jvm.FP.Core.fits b64 (.fin t d r)).2.1
  have f1' : b64.qmin ≤ q' := (e1' ▸ val64_fits x' : Jvm.FP.Core.fits b64 (.fin s' c' q')).2.1
  have f2' : b64.qmin ≤ r' := (e2' ▸ val64_fits y' : Jvm.FP.Core.fits b64 (.fin t' d' r')).2.1
  rw [own_zv e2] at py h
  rw [own_zv e2'] at py' h
  rw [own_zv e1] at px h
  rw [own_zv e1'] at px' h
  have ht := own_pos_sign py
  have ht' := own_pos_sign py'
  have d0 : d ≠ 0 := fun z => by rw [z, Nat.zero_mul, signed_zero] at py; exact Int.lt_irrefl _ py
  have d0' : d' ≠ 0 := fun z => by rw [z, Nat.zero_mul, signed_zero] at py'; exact Int.lt_irrefl _ py'
  show zval b64 (val64 (ddiv x y)) = zval b64 (val64 (ddiv x' y'))
  rw [own_quot e1 e2 d0, own_quot e1' e2' d0']
  rw [own_nonneg px, own_nonneg px', own_nonneg (Int.le_of_lt py), own_nonneg (Int.le_of_lt py'), ← Int.natCast_mul, ← Int.natCast_mul] at h
  have hN : c * 2 ^ (q - b64.qmin).toNat * (d' * 2 ^ (r' - b64.qmin).toNat) = c' * 2 ^ (q' - b64.qmin).toNat * (d * 2 ^ (r - b64.qmin).toNat) := Int.natCast_inj.mp h
  have hP : c * d' * 2 ^ ((q - b64.qmin).toNat + (r' - b64.qmin).toNat) = c' * d * 2 ^ ((q' - b64.qmin).toNat + (r - b64.qmin).toNat) := by
    rw [Nat.pow_add, Nat.pow_add]
    calc c * d' * (2 ^ (q - b64.qmin).toNat * 2 ^ (r' - b64.qmin).toNat) = c * 2 ^ (q - b64.qmin).toNat * (d' * 2 ^ (r' - b64.qmin).toNat) := by ac_rfl
      _ = c' * 2 ^ (q' - b64.qmin).toNat * (d * 2 ^ (r - b64.qmin).toNat) := hN
      _ = c' * d * (2 ^ (q' - b64.qmin).toNat * 2 ^ (r - b64.qmin).toNat) := by ac_rfl
  have hC : c * d' * 2 ^ ((q - r) - (q' - r')).toNat = c' * d * 2 ^ ((q' - r') - (q - r)).toNat := own_pow_shift hP (by omega)
  by_cases hz : c = 0
  · have hz' : c' = 0 := by
      rw [hz, Nat.zero_mul, Nat.zero_mul] at hC
      rcases Nat.mul_eq_zero.mp hC.symm with k | k
      · rcases Nat.mul_eq_zero.mp k with k | k
        · exact k
        · exact absurd k d0
      · have := Nat.two_pow_pos ((q' - r') - (q - r)).toNat; omega
    rw [hz, hz', own_rr0, own_rr0]
  · have hz' : c' ≠ 0 := by
      intro k
      rw [k, Nat.zero_mul, Nat.zero_mul] at hC
      rcases Nat.mul_eq_zero.mp hC with k | k
      · rcases Nat.mul_eq_zero.mp k with k | k
        · exact hz k
        · exact d0' k
      · have := Nat.two_pow_pos ((q - r) - (q' - r')).toNat; omega
    have sx : s = false := by
      cases s
      · rfl
      · exfalso
        have := Nat.mul_pos (Nat.pos_of_ne_zero hz) (Nat.two_pow_pos (q - b64.qmin).toNat)
        simp only [signed, if_true] at px
        omega
    have sx' : s' = false := by
      cases s'
      · rfl
      · exfalso
        have := Nat.mul_pos (Nat.pos_of_ne_zero hz') (Nat.two_pow_pos (q' - b64.qmin).toNat)
        simp only [signed, if_true] at px'
        omega
    rw [ht, ht', sx, sx', roundRatio_congr (Nat.pos_of_ne_zero d0) (Nat.pos_of_ne_zero d0') hC]
/-- an exact quotient, nothing negative -/
theorem own_div {x y : UInt64} {z : Int} (hx : DFin x) (hy : DFin y) (px : 0 ≤ own_z x) (py : 0 < own_z y) (h : own_rep z) (e : own_z x * (own_U : Int) = z * own_z y) : DFin (ddiv x y) ∧ own_z (ddiv x y) = z := by
  obtain ⟨s, c, q, e1⟩ := hx
  obtain ⟨t, d, r, e2⟩ := hy
  obtain ⟨sv, cv, qv, fV, zV⟩ := own_datum h
  have f1 := (e1 ▸ val64_fits x : Jvm.FP.Core.fits b64 (.fin s c q))
  have f2 := (e2 ▸ val64_fits y : Jvm.FP.Core.fits b64 (.fin t d r))
  have pz : 0 ≤ z := by
    refine Int.not_lt.mp fun k => ?_
    have h1 : z * own_z y < 0 := Int.mul_neg_of_neg_of_pos k py
    have h2 : 0 ≤ own_z x * (own_U : Int) := Int.mul_nonneg px (Int.le_of_lt own_U_pos)
    omega
  have hq := qmin_b64
  have hm : b64.qmax = 971 := by decide
  have q1 := f1.2.1
  have q2 := f1.2.2.1
  have q3 := f2.2.1
  have q4 := f2.2.2.1
  have zM : (zmag b64 (.fin sv cv qv) : Int) = z := by
    have k : 0 ≤ signed sv (zmag b64 (.fin sv cv qv)) := by rw [show signed sv (zmag b64 (.fin sv cv qv)) = z from zV]; exact pz
    rw [← own_nonneg k]; exact zV
  rw [own_zv e1] at px e
  rw [own_zv e2] at py e
  have ht := own_pos_sign py
  have d0 : d ≠ 0 := fun k => by rw [k, Nat.zero_mul, signed_zero] at py; exact Int.lt_irrefl _ py
  rw [own_nonneg px, own_nonneg (Int.le_of_lt py), ← zM, ← Int.natCast_mul, ← Int.natCast_mul] at e
  have hN : c * 2 ^ (q - b64.qmin).toNat * own_U = zmag b64 (.fin sv cv qv) * (d * 2 ^ (r - b64.qmin).toNat) := Int.natCast_inj.mp e
  generalize hmv : zmag b64 (.fin sv cv qv) = mv at hN zM
  have hP : c * 2 ^ ((q - b64.qmin).toNat + 1074) = mv * d * 2 ^ (r - b64.qmin).toNat := by
    rw [Nat.pow_add, ← Nat.mul_assoc, ← own_U_eq, hN, Nat.mul_assoc]
  have hC : c * 2 ^ (q - r - (-4000)).toNat = mv * d * 2 ^ (b64.qmin - (-4000)).toNat := own_pow_shift hP (by omega)
  have hE : inUnits c (q - r) (-4000) = zmag b64 (.fin sv cv qv) * 2 ^ (b64.qmin - (-4000)).toNat * d := by
    unfold inUnits
    rw [hC, hmv]; exact Nat.mul_right_comm _ _ _
  have l1 := zmag_roundRatio_le good_b64 (s := (s != t)) (A := c) (B := d) (e := q - r) (e0 := -4000) (V := .fin sv cv qv) (Nat.pos_of_ne_zero d0) fV (fun q => Datum.noConfusion q) (by omega) (by omega) (Nat.le_of_eq hE)
  have l2 := zmag_roundRatio_ge good_b64 (s := (s != t)) (A := c) (B := d) (e := q - r) (e0 := -4000) (V := .fin sv cv qv) (Nat.pos_of_ne_zero d0) fV (by omega) (by omega) (Nat.le_of_eq hE.symm)
  have l3 : zmag b64 (roundRatio b64 (s != t) c d (q - r)) = mv := by rw [← hmv]; exact Nat.le_antisymm l1 l2
  have k : own_z (ddiv x y) = z := by
    show zval b64 (val64 (ddiv x y)) = z
    rw [own_quot e1 e2 d0]
    by_cases hz : c = 0
    · rw [hz, own_rr0]
      rw [hz, Nat.zero_mul] at hP
      have : mv * d * 2 ^ (r - b64.qmin).toNat = 0 := hP.symm
      rcases Nat.mul_eq_zero.mp this with k | k
      · rcases Nat.mul_eq_zero.mp k with k | k
        · rw [← zM, k]; rfl
        · exact absurd k d0
      · have := Nat.two_pow_pos (r - b64.qmin).toNat; omega
    · have sx : s = false := by
        cases s
        · rfl
        · exfalso
          have := Nat.mul_pos (Nat.pos_of_ne_zero hz) (Nat.two_pow_pos (q - b64.qmin).toNat)
          simp only [signed, if_true] at px
          omega
      unfold zval
      rw [sgn_roundRatio, l3, ht, sx, ← zM]
      rfl
  refine ⟨own_fin_of ?_ k h, k⟩
  rw [own_quot e1 e2 d0]
  exact roundRatio_ne_nan _ _ _ _ _
theorem own_pow_shift_le {A B u v u' v' : Nat} (h : A * 2 ^ u ≤ B * 2 ^ v) (he : u + v' = u' + v) : A * 2 ^ u' ≤ B * 2 ^ v' := by
  refine Nat.le_of_mul_le_mul_right ?_ (Nat.two_pow_pos v)
  calc A * 2 ^ u' * 2 ^ v = A * 2 ^ (u' + v) := by rw [Nat.mul_assoc, ← Nat.pow_add]
    _ = A * 2 ^ (u + v') := by rw [he]
    _ = A * 2 ^ u * 2 ^ v' := by rw [Nat.mul_assoc, ← Nat.pow_add]
    _ ≤ B * 2 ^ v * 2 ^ v' := Nat.mul_le_mul_right _ h
    _ = B * 2 ^ v' * 2 ^ v := by ac_rfl
/-- what a quotient that isn't negative is, by its magnitude -/
theorem own_div_mag {x y : UInt64} (hx : DFin x) (hy : DFin y) (px : 0 ≤ own_z x) (py : 0 < own_z y) : ∃ (c d : Nat) (q r : Int), b64.qmin ≤ q ∧ q ≤ b64.qmax ∧ b64.qmin ≤ r ∧ r ≤ b64.qmax ∧ 0 < d ∧
    own_z x = ((c * 2 ^ (q - b64.qmin).toNat : Nat) : Int) ∧ own_z y = ((d * 2 ^ (r - b64.qmin).toNat : Nat) : Int) ∧ val64 (ddiv x y) ≠ .nan ∧ ∃ s, own_z (ddiv x y) = (zmag b64 (roundRatio b64 s c d (q - r)) : Int) := by
  obtain ⟨s, c, q, e1⟩ := hx
  obtain ⟨t, d, r, e2⟩ := hy
  have f1 := (e1 ▸ val64_fits x : Jvm.FP.Core.fits b64 (.fin s c q))
  have f2 := (e2 ▸ val64_fits y : Jvm.FP.Core.fits b64 (.fin t d r))
  rw [own_zv e1] at px
  rw [own_zv e2] at py
  have d0 : d ≠ 0 := fun k => by rw [k, Nat.zero_mul, signed_zero] at py; exact Int.lt_irrefl _ py
  refine ⟨c, d, q, r, f1.2.1, f1.2.2.1, f2.2.1, f2.2.2.1, Nat.pos_of_ne_zero d0, by rw [own_zv e1, own_nonneg px], by rw [own_zv e2, own_nonneg (Int.le_of_lt py)], ?_, (s != t), ?_⟩
  · rw [own_quot e1 e2 d0]; exact roundRatio_ne_nan _ _ _ _ _
  · show zval b64 (val64 (ddiv x y)) = _
    rw [own_quot e1 e2 d0]
    by_cases hz : c = 0
    · have k : zval b64 (roundRatio b64 (s != t) c d (q - r)) = 0 := by rw [hz]; exact own_rr0 _ _ _
      have k2 := k
      unfold zval at k2
      rw [signed_eq_zero] at k2
      rw [k, k2]; rfl
    · have sx : s = false := by
        cases s
        · rfl
        · exfalso
          have := Nat.mul_pos (Nat.pos_of_ne_zero hz) (Nat.two_pow_pos (q - b64.qmin).toNat)
          simp only [signed, if_true] at px
          omega
      unfold zval
      rw [sgn_roundRatio, own_pos_sign py, sx]
      rfl
theorem own_div_nonneg {x y : UInt64} (hx : DFin x) (hy : DFin y) (px : 0 ≤ own_z x) (py : 0 < own_z y) : val64 (ddiv x y) ≠ .nan ∧ 0 ≤ own_z (ddiv x y) := by
  obtain ⟨c, d, q, r, -, -, -, -, -, -, -, h1, s, h2⟩ := own_div_mag hx hy px py
  exact ⟨h1, by rw [h2]; exact Int.natCast_nonneg _⟩
theorem own_mag_val {w : UInt64} (pw : 0 ≤ own_z w) : own_z w = (zmag b64 (val64 w) : Int) := own_nonneg pw
theorem own_div_le {x y w : UInt64} (hx : DFin x) (hy : DFin y) (px : 0 ≤ own_z x) (py : 0 < own_z y) (hw : val64 w ≠ .nan) (pw : 0 ≤ own_z w) (h : own_z x * (own_U : Int) ≤ own_z w * own_z y) : own_z (ddiv x y) ≤ own_z w := by
  obtain ⟨c, d, q, r, q1, q2, q3, q4, d0, zx, zy, -, s, zq⟩ := own_div_mag hx hy px py
  have hq := qmin_b64
  have hm : b64.qmax = 971 := by decide
  rw [zq, own_mag_val pw]
  rw [zx, zy, own_mag_val pw, ← Int.natCast_mul, ← Int.natCast_mul] at h
  have hN : c * 2 ^ (q - b64.qmin).toNat * own_U ≤ zmag b64 (val64 w) * (d * 2 ^ (r - b64.qmin).toNat) := Int.ofNat_le.mp h
  have hP : c * 2 ^ ((q - b64.qmin).toNat + 1074) ≤ zmag b64 (val64 w) * d * 2 ^ (r - b64.qmin).toNat := by
    rw [Nat.pow_add, ← Nat.mul_assoc, Nat.mul_assoc (zmag b64 (val64 w)), ← own_U_eq]
    exact hN
  have hC : c * 2 ^ (q - r - (-4000)).toNat ≤ zmag b64 (val64 w) * d * 2 ^ (b64.qmin - (-4000)).toNat := own_pow_shift_le hP (by omega)
  refine Int.ofNat_le.mpr (zmag_roundRatio_le good_b64 (e0 := -4000) d0 (val64_fits w) hw (by omega) (by omega) ?_)
  unfold inUnits
  exact Nat.le_trans hC (Nat.le_of_eq (Nat.mul_right_comm _ _ _))
theorem own_div_ge {x y w : UInt64} (hx : DFin x) (hy : DFin y) (px : 0 ≤ own_z x) (py : 0 < own_z y) (pw : 0 ≤ own_z w) (h : own_z w * own_z y ≤ own_z x * (own_U : Int)) : own_z w ≤ own_z (ddiv x y) := by
  obtain ⟨c, d, q, r, q1, q2, q3, q4, d0, zx, zy, -, s, zq⟩ := own_div_mag hx hy px py
  have hq := qmin_b64
  have hm : b64.qmax = 971 := by decide
  rw [zq, own_mag_val pw]
  rw [zx, zy, own_mag_val pw, ← Int.natCast_mul, ← Int.natCast_mul] at h
  have hN : zmag b64 (val64 w) * (d * 2 ^ (r - b64.qmin).toNat) ≤ c * 2 ^ (q - b64.qmin).toNat * own_U := Int.ofNat_le.mp h
  have hP : zmag b64 (val64 w) * d * 2 ^ (r - b64.qmin).toNat ≤ c * 2 ^ ((q - b64.qmin).toNat + 1074) := by
    rw [Nat.pow_add, ← Nat.mul_assoc, Nat.mul_assoc (zmag b64 (val64 w)), ← own_U_eq]
    exact hN
  have hC : zmag b64 (val64 w) * d * 2 ^ (b64.qmin - (-4000)).toNat ≤ c * 2 ^ (q - r - (-4000)).toNat := own_pow_shift_le hP (by omega)
  refine Int.ofNat_le.mpr (zmag_roundRatio_ge good_b64 (e0 := -4000) d0 (val64_fits w) (by omega) (by omega) ?_)
  unfold inUnits
  exact Nat.le_trans (Nat.le_of_eq (Nat.mul_right_comm _ _ _)) hC
/-- x is finite and is n / 2^k -/
def own_is (x : UInt64) (n : Int) (k : Nat) : Prop := DFin x ∧ own_z x * ((2 ^ k : Nat) : Int) = n * (own_U : Int)
theorem own_two_pos (k : Nat) : (0 : Int) < ((2 ^ k : Nat) : Int) := Int.natCast_pos.mpr (Nat.two_pow_pos k)
theorem own_U_split {k : Nat} (hk : k ≤ 1074) : (own_U : Int) = ((2 ^ (1074 - k) : Nat) : Int) * ((2 ^ k : Nat) : Int) := by
  rw [← Int.natCast_mul, ← Nat.pow_add, Nat.sub_add_cancel hk, own_U_eq]
theorem own_rep_of {z n : Int} {k : Nat} (h : z * ((2 ^ k : Nat) : Int) = n * (own_U : Int)) (hn : n.natAbs < 2 ^ 53) (hk : k ≤ 1074) : z = n * ((2 ^ (1074 - k) : Nat) : Int) ∧ own_rep z := by
  have e : z = n * ((2 ^ (1074 - k) : Nat) : Int) := by
    rw [own_U_split hk, ← Int.mul_assoc] at h
    exact Int.eq_of_mul_eq_mul_right (Int.ne_of_gt (own_two_pos k)) h
  exact ⟨e, n, 1074 - k, e, hn, by omega⟩
theorem own_is.nn {x : UInt64} {n : Int} {k : Nat} (h : own_is x n k) : Jvm.Free.Fl.NoNaN64 x := Jvm.Free.Fl.noNaN64_no.mpr ((notNaN_iff x).mpr (by obtain ⟨⟨s, c, q, e⟩, -⟩ := h; rw [e]; exact fun q => Datum.noConfusion q))
theorem own_is.fin {x : UInt64} {n : Int} {k : Nat} (h : own_is x n k) : Jvm.Free.Fl.Fin64 x := Jvm.Free.Fl.fin64_core.mpr h.1
theorem own_is.val {x : UInt64} {n : Int} {k : Nat} (h : own_is x n k) : val64 x ≠ .nan := by obtain ⟨⟨s, c, q, e⟩, -⟩ := h; rw [e]; exact fun q => Datum.noConfusion q
theorem own_is.add {x y : UInt64} {n m : Int} {k : Nat} (hx : own_is x n k) (hy : own_is y m k) (hn : (n + m).natAbs < 2 ^ 53) (hk : k ≤ 1074) : own_is (dadd x y) (n + m) k := by
  have e : (own_z x + own_z y) * ((2 ^ k : Nat) : Int) = (n + m) * (own_U : Int) := by rw [Int.add_mul, Int.add_mul, hx.2, hy.2]
  obtain ⟨a, b⟩ := own_add hx.1 hy.1 (own_rep_of e hn hk).2
  exact ⟨a, by rw [b]; exact e⟩
theorem own_is.sub {x y : UInt64} {n m : Int} {k : Nat} (hx : own_is x n k) (hy : own_is y m k) (hn : (n - m).natAbs < 2 ^ 53) (hk : k ≤ 1074) : own_is (dsub x y) (n - m) k := by
  have e : (own_z x - own_z y) * ((2 ^ k : Nat) : Int) = (n - m) * (own_U : Int) := by rw [Int.sub_mul, Int.sub_mul, hx.2, hy.2]
  obtain ⟨a, b⟩ := own_sub hx.1 hy.1 (own_rep_of e hn hk).2
  exact ⟨a, by rw [b]; exact e⟩
theorem own_is.mul {x y : UInt64} {n m : Int} {k j : Nat} (hx : own_is x n k) (hy : own_is y m j) (hn : (n * m).natAbs < 2 ^ 53) (hk : k + j ≤ 1074) : own_is (dmul x y) (n * m) (k + j) := by
  have hp : ((2 ^ (k + j) : Nat) : Int) = ((2 ^ k : Nat) : Int) * ((2 ^ j : Nat) : Int) := by rw [Nat.pow_add, Int.natCast_mul]
  have e0 : n * m * ((2 ^ (1074 - (k + j)) : Nat) : Int) * ((2 ^ (k + j) : Nat) : Int) = n * m * (own_U : Int) := by rw [own_U_split hk, Int.mul_assoc]
  have e : own_z x * own_z y = n * m * ((2 ^ (1074 - (k + j)) : Nat) : Int) * (own_U : Int) := by
    refine Int.eq_of_mul_eq_mul_right (Int.ne_of_gt (own_two_pos (k + j))) ?_
    calc own_z x * own_z y * ((2 ^ (k + j) : Nat) : Int) = (own_z x * ((2 ^ k : Nat) : Int)) * (own_z y * ((2 ^ j : Nat) : Int)) := by rw [hp]; ac_rfl
      _ = (n * (own_U : Int)) * (m * (own_U : Int)) := by rw [hx.2, hy.2]
      _ = n * m * (own_U : Int) * (own_U : Int) := by ac_rfl
      _ = n * m * ((2 ^ (1074 - (k + j)) : Nat) : Int) * ((2 ^ (k + j) : Nat) : Int) * (own_U : Int) := by rw [e0]
      _ = n * m * ((2 ^ (1074 - (k + j)) : Nat) : Int) * (own_U : Int) * ((2 ^ (k + j) : Nat) : Int) := by ac_rfl
  obtain ⟨a, b⟩ := own_mul hx.1 hy.1 (own_rep_of e0 hn hk).2 e
  exact ⟨a, by rw [b]; exact e0⟩
theorem own_is.div {x y : UInt64} {n m q : Int} {k j i : Nat} (hx : own_is x n k) (hy : own_is y m j) (pn : 0 ≤ n) (pm : 0 < m) (hq : q.natAbs < 2 ^ 53) (hi : i ≤ 1074)
    (h : n * ((2 ^ j : Nat) : Int) * ((2 ^ i : Nat) : Int) = q * m * ((2 ^ k : Nat) : Int)) : own_is (ddiv x y) q i := by
  have e0 : q * ((2 ^ (1074 - i) : Nat) : Int) * ((2 ^ i : Nat) : Int) = q * (own_U : Int) := by rw [own_U_split hi, Int.mul_assoc]
  have px : 0 ≤ own_z x := by
    refine Int.not_lt.mp fun z => ?_
    have h1 := Int.mul_neg_of_neg_of_pos z (own_two_pos k)
    have h2 := Int.mul_nonneg pn (Int.le_of_lt own_U_pos)
    rw [hx.2] at h1; omega
  have py : 0 < own_z y := by
    refine Int.not_le.mp fun z => ?_
    have h1 : own_z y * ((2 ^ j : Nat) : Int) ≤ 0 := Int.mul_nonpos_of_nonpos_of_nonneg z (Int.le_of_lt (own_two_pos j))
    have h2 := Int.mul_pos pm own_U_pos
    rw [hy.2] at h1; omega
  have e : own_z x * (own_U : Int) = q * ((2 ^ (1074 - i) : Nat) : Int) * own_z y := by
    refine Int.eq_of_mul_eq_mul_right (Int.ne_of_gt (Int.mul_pos (Int.mul_pos (own_two_pos k) (own_two_pos j)) (own_two_pos i))) ?_
    calc own_z x * (own_U : Int) * (((2 ^ k : Nat) : Int) * ((2 ^ j : Nat) : Int) * ((2 ^ i : Nat) : Int)) = (own_z x * ((2 ^ k : Nat) : Int)) * (own_U : Int) * ((2 ^ j : Nat) : Int) * ((2 ^ i : Nat) : Int) := by ac_rfl
      _ = (n * ((2 ^ j : Nat) : Int) * ((2 ^ i : Nat) : Int)) * (own_U : Int) * (own_U : Int) := by rw [hx.2]; ac_rfl
      _ = (q * (own_U : Int)) * (m * (own_U : Int)) * ((2 ^ k : Nat) : Int) := by rw [h]; ac_rfl
      _ = (q * ((2 ^ (1074 - i) : Nat) : Int) * ((2 ^ i : Nat) : Int)) * (own_z y * ((2 ^ j : Nat) : Int)) * ((2 ^ k : Nat) : Int) := by rw [e0, hy.2]
      _ = q * ((2 ^ (1074 - i) : Nat) : Int) * own_z y * (((2 ^ k : Nat) : Int) * ((2 ^ j : Nat) : Int) * ((2 ^ i : Nat) : Int)) := by ac_rfl
  obtain ⟨a, b⟩ := own_div hx.1 hy.1 px py (own_rep_of e0 hq hi).2 e
  exact ⟨a, by rw [b]; exact e0⟩
theorem own_is.scale {x : UInt64} {n : Int} {k : Nat} (h : own_is x n k) (i : Nat) : own_is x (n * ((2 ^ i : Nat) : Int)) (k + i) := by
  refine ⟨h.1, ?_⟩
  rw [Nat.pow_add, Int.natCast_mul, ← Int.mul_assoc, h.2]; ac_rfl
theorem own_is.l2d {a : Int64} (h : a.toInt.natAbs < 2 ^ 53) : own_is (l2d a) a.toInt 0 := by
  refine ⟨l2d_fin a, ?_⟩
  have hs : Small53 a := by unfold Small53; omega
  have e := whole_zval good_b64 (val64_fits (Jvm.FP.Core.l2d a)) (l2d_whole hs)
  rw [show (-b64.qmin).toNat = 1074 by rw [qmin_b64]; rfl] at e
  show zval b64 (val64 (Jvm.FP.Core.l2d a)) * _ = _
  rw [e, Nat.pow_zero]
  show _ * (1 : Int) = _
  rw [Int.mul_one, own_U_eq]
theorem own_is.i2d (a : Int32) : own_is (i2d a) a.toInt 0 := by
  rw [i2d_l2d]
  have h := own_is.l2d (a := a.toInt64) (by rw [Int32.toInt_toInt64]; have := a.le_toInt; have := a.toInt_lt; omega)
  rw [Int32.toInt_toInt64] at h
  exact h
theorem own_is.lt_iff {x y : UInt64} {n m : Int} {k : Nat} (hx : own_is x n k) (hy : own_is y m k) : own_z x < own_z y ↔ n < m := by
  have h1 : own_z x * ((2 ^ k : Nat) : Int) < own_z y * ((2 ^ k : Nat) : Int) ↔ own_z x < own_z y := Int.mul_lt_mul_right (own_two_pos k)
  rw [← h1, hx.2, hy.2]
  exact Int.mul_lt_mul_right own_U_pos
theorem own_is.eq_iff {x y : UInt64} {n m : Int} {k : Nat} (hx : own_is x n k) (hy : own_is y m k) : own_z x = own_z y ↔ n = m := by
  have h1 := hx.lt_iff hy
  have h2 := hy.lt_iff hx
  omega
theorem own_cmp_eq {x y : UInt64} (h1 : val64 x ≠ .nan) (h2 : val64 y ≠ .nan) (h : own_z x = own_z y) (o : ClassFile.CmpOp) : Jvm.Op.cmpValue (FP.dcmp x y) o = 0 := by
  rw [show FP.dcmp x y = some .eq from dcmp_eq.mpr ⟨h1, h2, h⟩]; rfl
theorem own_cmp_lt {x y : UInt64} (h1 : val64 x ≠ .nan) (h2 : val64 y ≠ .nan) (h : own_z x < own_z y) (o : ClassFile.CmpOp) : Jvm.Op.cmpValue (FP.dcmp x y) o = -1 := by
  rw [show FP.dcmp x y = some .lt from dcmp_lt.mpr ⟨h1, h2, h⟩]; rfl
theorem own_cmp_gt {x y : UInt64} (h1 : val64 x ≠ .nan) (h2 : val64 y ≠ .nan) (h : own_z y < own_z x) (o : ClassFile.CmpOp) : Jvm.Op.cmpValue (FP.dcmp x y) o = 1 := by
  rw [show FP.dcmp x y = some .gt from dcmp_gt.mpr ⟨h1, h2, h⟩]; rfl
theorem own_cmp_ge {x y : UInt64} (h1 : val64 x ≠ .nan) (h2 : val64 y ≠ .nan) (h : own_z y ≤ own_z x) (o : ClassFile.CmpOp) : ¬ Jvm.Op.cmpValue (FP.dcmp x y) o < 0 := by
  by_cases e : own_z x = own_z y
  · rw [own_cmp_eq h1 h2 e]; decide
  · rw [own_cmp_gt h1 h2 (by omega)]; decide
theorem own_cmp_le {x y : UInt64} (h1 : val64 x ≠ .nan) (h2 : val64 y ≠ .nan) (h : own_z x ≤ own_z y) (o : ClassFile.CmpOp) : ¬ 0 < Jvm.Op.cmpValue (FP.dcmp x y) o := by
  by_cases e : own_z x = own_z y
  · rw [own_cmp_eq h1 h2 e]; decide
  · rw [own_cmp_lt h1 h2 (by omega)]; decide
theorem own_nn_of {x : UInt64} (h : val64 x ≠ .nan) : Jvm.Free.Fl.NoNaN64 x := Jvm.Free.Fl.noNaN64_no.mpr ((notNaN_iff x).mpr h)
theorem own_is.nonneg {x : UInt64} {n : Int} {k : Nat} (hx : own_is x n k) (pn : 0 ≤ n) : 0 ≤ own_z x := by
  refine Int.not_lt.mp fun z => ?_
  have h1 := Int.mul_neg_of_neg_of_pos z (own_two_pos k)
  have h2 := Int.mul_nonneg pn (Int.le_of_lt own_U_pos)
  rw [hx.2] at h1; omega
theorem own_is.pos {x : UInt64} {n : Int} {k : Nat} (hx : own_is x n k) (pn : 0 < n) : 0 < own_z x := by
  refine Int.not_le.mp fun z => ?_
  have h1 : own_z x * ((2 ^ k : Nat) : Int) ≤ 0 := Int.mul_nonpos_of_nonpos_of_nonneg z (Int.le_of_lt (own_two_pos k))
  have h2 := Int.mul_pos pn own_U_pos
  rw [hx.2] at h1; omega
theorem own_is.z {x : UInt64} {n : Int} (hx : own_is x n 0) : own_z x = n * (own_U : Int) := by
  have h := hx.2
  rw [Nat.pow_zero] at h
  exact (Int.mul_one _).symm.trans h
theorem own_is.ceq {x y : UInt64} {n m : Int} {k : Nat} (hx : own_is x n k) (hy : own_is y m k) (h : n = m) (o : ClassFile.CmpOp) : Jvm.Op.cmpValue (FP.dcmp x y) o = 0 := own_cmp_eq hx.val hy.val ((hx.eq_iff hy).mpr h) o
theorem own_is.clt {x y : UInt64} {n m : Int} {k : Nat} (hx : own_is x n k) (hy : own_is y m k) (h : n < m) (o : ClassFile.CmpOp) : Jvm.Op.cmpValue (FP.dcmp x y) o = -1 := own_cmp_lt hx.val hy.val ((hx.lt_iff hy).mpr h) o
theorem own_is.cgt {x y : UInt64} {n m : Int} {k : Nat} (hx : own_is x n k) (hy : own_is y m k) (h : m < n) (o : ClassFile.CmpOp) : Jvm.Op.cmpValue (FP.dcmp x y) o = 1 := own_cmp_gt hx.val hy.val ((hy.lt_iff hx).mpr h) o
theorem own_is.zero : own_is FP.dconst0 0 0 := by
  refine ⟨⟨_, _, _, val64_dconst0⟩, ?_⟩
  show zval b64 (val64 dconst0) * _ = _
  rw [val64_dconst0, Int.zero_mul]
  show signed false (0 * _) * _ = _
  rw [Nat.zero_mul, signed_zero, Int.zero_mul]
theorem own_is.one : own_is FP.dconst1 1 0 := by
  refine ⟨⟨_, _, _, val64_dconst1⟩, ?_⟩
  show zval b64 (val64 dconst1) * _ = _
  rw [val64_dconst1, own_U_eq]
  decide +kernel
end Jvm.OwnFl
namespace Jvm.Pilot.@@N@@
open Jvm Jvm.ClassFile Sem Op Lib Jvm.Free Jvm.Stand Jvm.LawKit Jvm.RoadKit Bundle Jvm.Free.Fl Jvm.OwnFl Jvm.Pilot.@@N@@.Jvm.D
theorem own_hw {a0 : Array Value} {Z : State} (hw : ∀ d ∈ tables_1, d.before a0 Z = true) (i : Nat) {d : Jvm.Cond} (h : tables_1[i]? = some d) : d.before a0 Z = true := hw d (List.mem_of_getElem? h)
section OwnKit
variable {p : Program} {l : Launch} {e : Env} {R : Room} {s : State} {m : MethodId} {args : Array Value} {below : List Frame} {meth : Method} {c : Code} {T : State} {locs : List Loc} {cells slots : Nat}
/-- from the state t the run goes on to a return of which Q holds -/
def own_Go (p : Program) (e : Env) (below : List Frame) (Fe : Outcome → State → List Loc → Prop) (Q : Option Value → Heap → List Loc → Prop) (t : State) : Prop :=
  ∃ s₂ o, Steps p.tables e below t s₂ ∧ s₂.status = .running ∧ Ended s₂ below o ∧ ∃ v L, o = .returned v ∧ Q v s₂.heap L ∧ Fe o s₂ L
theorem own_st {Fe : Outcome → State → List Loc → Prop} {Q : Option Value → Heap → List Loc → Prop} {t t' : State} (h : ∀ target, Steps p.tables e below t' target → Steps p.tables e below t target) (k : own_Go p e below Fe Q t') : own_Go p e below Fe Q t := by
  obtain ⟨s₂, o, h1, r⟩ := k
  exact ⟨s₂, o, h _ h1, r⟩
theorem own_tr {Fe : Outcome → State → List Loc → Prop} {Q : Option Value → Heap → List Loc → Prop} {t t' : State} (h : Steps p.tables e below t t') (k : own_Go p e below Fe Q t') : own_Go p e below Fe Q t := own_st (fun _ q => h.trans q) k
theorem own_ret (X : Stand p l e R s m args below meth c T locs cells slots) {K N : Nat} {Q : Option Value → Heap → List Loc → Prop} {t : State} (v : Option Value) (hv : meth.sig.returnType = none → v = none) (hlocks : meth.locks = false) (hK : cells ≤ K) (hN : slots ≤ N) (hQ : Q v T.heap locs)
    (hs : ∀ fs : List Frame, (∀ (f : JFrame) (acts : List Action), f.method = m → f.locked = none → f.entered = [] → (doReturn e (T.setTop f) acts v).1 = T.setFrames fs) → Steps p.tables e below t (T.setFrames fs)) : own_Go p e below (fun o u L => FrameEnd s o u L K N) Q t := by
  obtain ⟨fs, hr, hrun, hended, hW, hsame⟩ := X.leave (v := v) hv
  exact ⟨_, _, hs fs hr, hrun, hended, _, _, rfl, hQ, ⟨_, rfl⟩, hW, hsame.mono hK hN⟩
theorem own_retI (X : Stand p l e R s m args below meth c T locs cells slots) (hx : p.tables.exec = Jvm.exec) {pc : Nat} {Ls : Array Slot} {z : Int32} {rest : List Value} (hret : meth.sig.returnType = some .int) (hd : decode c.code pc = .ok (.ireturn, 1)) {fs : List Frame}
    (hl : ∀ (f : JFrame) (acts : List Action), f.method = m → f.locked = none → f.entered = [] → (doReturn e (T.setTop f) acts (some (.int z))).1 = T.setFrames fs) : Steps p.tables e below (T.setTop (mkF m pc Ls (.int z :: rest))) (T.setFrames fs) :=
  retOut X hx hret rfl (Or.inl ⟨rfl, Or.inl rfl, _, rfl⟩) hd hl
theorem own_retD (X : Stand p l e R s m args below meth c T locs cells slots) (hx : p.tables.exec = Jvm.exec) {pc : Nat} {Ls : Array Slot} {z : UInt64} {rest : List Value} (hret : meth.sig.returnType = some .double) (hd : decode c.code pc = .ok (.dreturn, 1)) {fs : List Frame}
    (hl : ∀ (f : JFrame) (acts : List Action), f.method = m → f.locked = none → f.entered = [] → (doReturn e (T.setTop f) acts (some (.double z))).1 = T.setFrames fs) : Steps p.tables e below (T.setTop (mkF m pc Ls (.double z :: rest))) (T.setFrames fs) :=
  retOut X hx hret rfl (Or.inr (Or.inr (Or.inl ⟨rfl, rfl, _, rfl⟩))) hd hl
theorem own_retJ (X : Stand p l e R s m args below meth c T locs cells slots) (hx : p.tables.exec = Jvm.exec) {pc : Nat} {Ls : Array Slot} {z : Int64} {rest : List Value} (hret : meth.sig.returnType = some .long) (hd : decode c.code pc = .ok (.lreturn, 1)) {fs : List Frame}
    (hl : ∀ (f : JFrame) (acts : List Action), f.method = m → f.locked = none → f.entered = [] → (doReturn e (T.setTop f) acts (some (.long z))).1 = T.setFrames fs) : Steps p.tables e below (T.setTop (mkF m pc Ls (.long z :: rest))) (T.setFrames fs) :=
  retOut X hx hret rfl (Or.inr (Or.inl ⟨rfl, rfl, _, rfl⟩)) hd hl
theorem own_retR (X : Stand p l e R s m args below meth c T locs cells slots) (hx : p.tables.exec = Jvm.exec) {pc : Nat} {Ls : Array Slot} {w : Value} {rest : List Value} {t : FieldType} (hret : meth.sig.returnType = some t) (ht : t.isReference = true) (hw : w.isRef = true) (hd : decode c.code pc = .ok (.areturn, 1)) {fs : List Frame}
    (hl : ∀ (f : JFrame) (acts : List Action), f.method = m → f.locked = none → f.entered = [] → (doReturn e (T.setTop f) acts (some w)).1 = T.setFrames fs) : Steps p.tables e below (T.setTop (mkF m pc Ls (w :: rest))) (T.setFrames fs) :=
  retOut X hx hret (by cases t <;> first | (cases ht; done) | rfl) (Or.inr (Or.inr (Or.inr (Or.inr ⟨rfl, ht, hw⟩)))) hd hl
theorem own_staKeep {Z : State} {h h' : Heap} {C n d : String} {v : Value} {ws : List Addr} (F : Sta Z h C n d v) (K : Keep h h' ws) (hn : ∀ x ∈ ws, ∀ cell : Cell, h[x]? = some cell → cell.vm.isStatics = false) : Sta Z h' C n d v := by
  obtain ⟨cf, i, k, f, st, cell, h1, h2, h3, h4, h5, h6, h7⟩ := F
  exact ⟨cf, i, k, f, st, cell, h1, h2, h3, h4, K.2.1 st cell h5 (fun q => by have := hn st q cell h5; rw [h6] at this; cases this), h6, h7⟩
end OwnKit
section OwnSteps
variable {p : Program} {l : Launch} {e : Env} {R : Room} {s : State} {m : MethodId} {args : Array Value} {below : List Frame} {meth : Method} {c : Code} {T : State} {locs : List Loc} {cells slots : Nat} {Fe : Outcome → State → List Loc → Prop} {Q : Option Value → Heap → List Loc → Prop} {pc : Nat} {Ls : Array Slot} {st : List Value} {Z : State} {a0 : Array Value} {h : Heap}
theorem own_iload (X : Stand p l e R s m args below meth c T locs cells slots) (hx : p.tables.exec = Jvm.exec) {i : Nat} {v : Int32} (pc' : Nat) (hp : pc + 2 = pc') (hd : decode c.code pc = .ok (.iload i, 2)) (hl : Ls[i]? = some (.val (.int v))) (k : own_Go p e below Fe Q (T.setTop (mkF m pc' Ls (.int v :: st)))) : own_Go p e below Fe Q (T.setTop (mkF m pc Ls (st))) := by
  subst hp
  exact own_st (fun _ hr => XS.iload X.here hx rfl hd hl hr) k
theorem own_iloadN (X : Stand p l e R s m args below meth c T locs cells slots) (hx : p.tables.exec = Jvm.exec) {i : Fin 4} {v : Int32} (pc' : Nat) (hp : pc + 1 = pc') (hd : decode c.code pc = .ok (.iload_n i, 1)) (hl : Ls[i.val]? = some (.val (.int v))) (k : own_Go p e below Fe Q (T.setTop (mkF m pc' Ls (.int v :: st)))) : own_Go p e below Fe Q (T.setTop (mkF m pc Ls (st))) := by
  subst hp
  exact own_st (fun _ hr => XS.iloadN X.here hx rfl hd hl hr) k
theorem own_istore (X : Stand p l e R s m args below meth c T locs cells slots) (hx : p.tables.exec = Jvm.exec) {i : Nat} {x : Int32} (pc' : Nat) (hp : pc + 2 = pc') (hd : decode c.code pc = .ok (.istore i, 2)) (Ls' : Array Slot) (hl : storeLocals Ls i (.int x) = some Ls') (k : own_Go p e below Fe Q (T.setTop (mkF m pc' Ls' (st)))) : own_Go p e below Fe Q (T.setTop (mkF m pc Ls (.int x :: st))) := by
  subst hp
  exact own_st (fun _ hr => XS.istore X.here hx rfl hd rfl hl hr) k
theorem own_istoreN (X : Stand p l e R s m args below meth c T locs cells slots) (hx : p.tables.exec = Jvm.exec) {i : Fin 4} {x : Int32} (pc' : Nat) (hp : pc + 1 = pc') (hd : decode c.code pc = .ok (.istore_n i, 1)) (Ls' : Array Slot) (hl : storeLocals Ls i.val (.int x) = some Ls') (k : own_Go p e below Fe Q (T.setTop (mkF m pc' Ls' (st)))) : own_Go p e below Fe Q (T.setTop (mkF m pc Ls (.int x :: st))) := by
  subst hp
  exact own_st (fun _ hr => XS.istoreN X.here hx rfl hd rfl hl hr) k
theorem own_lload (X : Stand p l e R s m args below meth c T locs cells slots) (hx : p.tables.exec = Jvm.exec) {i : Nat} {v : Int64} (pc' : Nat) (hp : pc + 2 = pc') (hd : decode c.code pc = .ok (.lload i, 2)) (hl : Ls[i]? = some (.val (.long v))) (k : own_Go p e below Fe Q (T.setTop (mkF m pc' Ls (.long v :: st)))) : own_Go p e below Fe Q (T.setTop (mkF m pc Ls (st))) := by
  subst hp
  exact own_st (fun _ hr => XS.lload X.here hx rfl hd hl hr) k
theorem own_lloadN (X : Stand p l e R s m args below meth c T locs cells slots) (hx : p.tables.exec = Jvm.exec) {i : Fin 4} {v : Int64} (pc' : Nat) (hp : pc + 1 = pc') (hd : decode c.code pc = .ok (.lload_n i, 1)) (hl : Ls[i.val]? = some (.val (.long v))) (k : own_Go p e below Fe Q (T.setTop (mkF m pc' Ls (.long v :: st)))) : own_Go p e below Fe Q (T.setTop (mkF m pc Ls (st))) := by
  subst hp
  exact own_st (fun _ hr => XS.lloadN X.here hx rfl hd hl hr) k
theorem own_lstore (X : Stand p l e R s m args below meth c T locs cells slots) (hx : p.tables.exec = Jvm.exec) {i : Nat} {x : Int64} (pc' : Nat) (hp : pc + 2 = pc') (hd : decode c.code pc = .ok (.lstore i, 2)) (Ls' : Array Slot) (hl : storeLocals Ls i (.long x) = some Ls') (k : own_Go p e below Fe Q (T.setTop (mkF m pc' Ls' (st)))) : own_Go p e below Fe Q (T.setTop (mkF m pc Ls (.long x :: st))) := by
  subst hp
  exact own_st (fun _ hr => XS.lstore X.here hx rfl hd rfl hl hr) k
theorem own_lstoreN (X : Stand p l e R s m args below meth c T locs cells slots) (hx : p.tables.exec = Jvm.exec) {i : Fin 4} {x : Int64} (pc' : Nat) (hp : pc + 1 = pc') (hd : decode c.code pc = .ok (.lstore_n i, 1)) (Ls' : Array Slot) (hl : storeLocals Ls i.val (.long x) = some Ls') (k : own_Go p e below Fe Q (T.setTop (mkF m pc' Ls' (st)))) : own_Go p e below Fe Q (T.setTop (mkF m pc Ls (.long x :: st))) := by
  subst hp
  exact own_st (fun _ hr => XS.lstoreN X.here hx rfl hd rfl hl hr) k
theorem own_dload (X : Stand p l e R s m args below meth c T locs cells slots) (hx : p.tables.exec = Jvm.exec) {i : Nat} {v : UInt64} (pc' : Nat) (hp : pc + 2 = pc') (hd : decode c.code pc = .ok (.dload i, 2)) (hl : Ls[i]? = some (.val (.double v))) (k : own_Go p e below Fe Q (T.setTop (mkF m pc' Ls (.double v :: st)))) : own_Go p e below Fe Q (T.setTop (mkF m pc Ls (st))) := by
  subst hp
  exact own_st (fun _ hr => XS.dload X.here hx rfl hd hl hr) k
theorem own_dloadN (X : Stand p l e R s m args below meth c T locs cells slots) (hx : p.tables.exec = Jvm.exec) {i : Fin 4} {v : UInt64} (pc' : Nat) (hp : pc + 1 = pc') (hd : decode c.code pc = .ok (.dload_n i, 1)) (hl : Ls[i.val]? = some (.val (.double v))) (k : own_Go p e below Fe Q (T.setTop (mkF m pc' Ls (.double v :: st)))) : own_Go p e below Fe Q (T.setTop (mkF m pc Ls (st))) := by
  subst hp
  exact own_st (fun _ hr => XS.dloadN X.here hx rfl hd hl hr) k
theorem own_dstore (X : Stand p l e R s m args below meth c T locs cells slots) (hx : p.tables.exec = Jvm.exec) {i : Nat} {x : UInt64} (pc' : Nat) (hp : pc + 2 = pc') (hd : decode c.code pc = .ok (.dstore i, 2)) (Ls' : Array Slot) (hl : storeLocals Ls i (.double x) = some Ls') (k : own_Go p e below Fe Q (T.setTop (mkF m pc' Ls' (st)))) : own_Go p e below Fe Q (T.setTop (mkF m pc Ls (.double x :: st))) := by
  subst hp
  exact own_st (fun _ hr => XS.dstore X.here hx rfl hd rfl hl hr) k
theorem own_dstoreN (X : Stand p l e R s m args below meth c T locs cells slots) (hx : p.tables.exec = Jvm.exec) {i : Fin 4} {x : UInt64} (pc' : Nat) (hp : pc + 1 = pc') (hd : decode c.code pc = .ok (.dstore_n i, 1)) (Ls' : Array Slot) (hl : storeLocals Ls i.val (.double x) = some Ls') (k : own_Go p e below Fe Q (T.setTop (mkF m pc' Ls' (st)))) : own_Go p e below Fe Q (T.setTop (mkF m pc Ls (.double x :: st))) := by
  subst hp
  exact own_st (fun _ hr => XS.dstoreN X.here hx rfl hd rfl hl hr) k
theorem own_aload (X : Stand p l e R s m args below meth c T locs cells slots) (hx : p.tables.exec = Jvm.exec) {i : Nat} {v : Value} (pc' : Nat) (hp : pc + 2 = pc') (hd : decode c.code pc = .ok (.aload i, 2)) (hl : Ls[i]? = some (.val v)) (hv : v.isRef = true) (k : own_Go p e below Fe Q (T.setTop (mkF m pc' Ls (v :: st)))) : own_Go p e below Fe Q (T.setTop (mkF m pc Ls (st))) := by
  subst hp
  exact own_st (fun _ hr => XS.aload X.here hx rfl hd hl hv hr) k
theorem own_aloadN (X : Stand p l e R s m args below meth c T locs cells slots) (hx : p.tables.exec = Jvm.exec) {i : Fin 4} {v : Value} (pc' : Nat) (hp : pc + 1 = pc') (hd : decode c.code pc = .ok (.aload_n i, 1)) (hl : Ls[i.val]? = some (.val v)) (hv : v.isRef = true) (k : own_Go p e below Fe Q (T.setTop (mkF m pc' Ls (v :: st)))) : own_Go p e below Fe Q (T.setTop (mkF m pc Ls (st))) := by
  subst hp
  exact own_st (fun _ hr => XS.aloadN X.here hx rfl hd hl hv hr) k
theorem own_astore (X : Stand p l e R s m args below meth c T locs cells slots) (hx : p.tables.exec = Jvm.exec) {i : Nat} {x : Value} (pc' : Nat) (hp : pc + 2 = pc') (hd : decode c.code pc = .ok (.astore i, 2)) (hv : x.isRef = true) (Ls' : Array Slot) (hl : storeLocals Ls i x = some Ls') (k : own_Go p e below Fe Q (T.setTop (mkF m pc' Ls' (st)))) : own_Go p e below Fe Q (T.setTop (mkF m pc Ls (x :: st))) := by
  subst hp
  exact own_st (fun _ hr => XS.astore X.here hx rfl hd rfl hv hl hr) k
theorem own_astoreN (X : Stand p l e R s m args below meth c T locs cells slots) (hx : p.tables.exec = Jvm.exec) {i : Fin 4} {x : Value} (pc' : Nat) (hp : pc + 1 = pc') (hd : decode c.code pc = .ok (.astore_n i, 1)) (hv : x.isRef = true) (Ls' : Array Slot) (hl : storeLocals Ls i.val x = some Ls') (k : own_Go p e below Fe Q (T.setTop (mkF m pc' Ls' (st)))) : own_Go p e below Fe Q (T.setTop (mkF m pc Ls (x :: st))) := by
  subst hp
  exact own_st (fun _ hr => XS.astoreN X.here hx rfl hd rfl hv hl hr) k
theorem own_iconst (X : Stand p l e R s m args below meth c T locs cells slots) (hx : p.tables.exec = Jvm.exec) {i : Int} (pc' : Nat) (hp : pc + 1 = pc') (hd : decode c.code pc = .ok (.iconst i, 1)) (z : Int32) (hz : Int32.ofInt i = z) (k : own_Go p e below Fe Q (T.setTop (mkF m pc' Ls (.int z :: st)))) : own_Go p e below Fe Q (T.setTop (mkF m pc Ls (st))) := by
  subst hp; subst hz
  exact own_st (fun _ hr => XS.iconst X.here hx rfl hd hr) k
theorem own_bipush (X : Stand p l e R s m args below meth c T locs cells slots) (hx : p.tables.exec = Jvm.exec) {i : Int} (pc' : Nat) (hp : pc + 2 = pc') (hd : decode c.code pc = .ok (.bipush i, 2)) (z : Int32) (hz : (Int8.ofInt i).toInt32 = z) (k : own_Go p e below Fe Q (T.setTop (mkF m pc' Ls (.int z :: st)))) : own_Go p e below Fe Q (T.setTop (mkF m pc Ls (st))) := by
  subst hp; subst hz
  exact own_st (fun _ hr => XS.bipush X.here hx rfl hd hr) k
theorem own_sipush (X : Stand p l e R s m args below meth c T locs cells slots) (hx : p.tables.exec = Jvm.exec) {i : Int} (pc' : Nat) (hp : pc + 3 = pc') (hd : decode c.code pc = .ok (.sipush i, 3)) (z : Int32) (hz : (Int16.ofInt i).toInt32 = z) (k : own_Go p e below Fe Q (T.setTop (mkF m pc' Ls (.int z :: st)))) : own_Go p e below Fe Q (T.setTop (mkF m pc Ls (st))) := by
  subst hp; subst hz
  exact own_st (fun _ hr => XS.sipush X.here hx rfl hd hr) k
theorem own_lconst (X : Stand p l e R s m args below meth c T locs cells slots) (hx : p.tables.exec = Jvm.exec) {i : Fin 2} (pc' : Nat) (hp : pc + 1 = pc') (hd : decode c.code pc = .ok (.lconst i, 1)) (z : Int64) (hz : Int64.ofNat i = z) (k : own_Go p e below Fe Q (T.setTop (mkF m pc' Ls (.long z :: st)))) : own_Go p e below Fe Q (T.setTop (mkF m pc Ls (st))) := by
  subst hp; subst hz
  exact own_st (fun _ hr => XS.lconst X.here hx rfl hd hr) k
theorem own_dconst0 (X : Stand p l e R s m args below meth c T locs cells slots) (hx : p.tables.exec = Jvm.exec)  (pc' : Nat) (hp : pc + 1 = pc') (hd : decode c.code pc = .ok (.dconst 0, 1))  (k : own_Go p e below Fe Q (T.setTop (mkF m pc' Ls (.double FP.dconst0 :: st)))) : own_Go p e below Fe Q (T.setTop (mkF m pc Ls (st))) := by
  subst hp
  exact own_st (fun _ hr => XS.dconst0 X.here hx rfl hd rfl hr) k
theorem own_dconst1 (X : Stand p l e R s m args below meth c T locs cells slots) (hx : p.tables.exec = Jvm.exec)  (pc' : Nat) (hp : pc + 1 = pc') (hd : decode c.code pc = .ok (.dconst 1, 1))  (k : own_Go p e below Fe Q (T.setTop (mkF m pc' Ls (.double FP.dconst1 :: st)))) : own_Go p e below Fe Q (T.setTop (mkF m pc Ls (st))) := by
  subst hp
  exact own_st (fun _ hr => XS.dconst1 X.here hx rfl hd rfl hr) k
theorem own_aconst_null (X : Stand p l e R s m args below meth c T locs cells slots) (hx : p.tables.exec = Jvm.exec)  (pc' : Nat) (hp : pc + 1 = pc') (hd : decode c.code pc = .ok (.aconst_null, 1))  (k : own_Go p e below Fe Q (T.setTop (mkF m pc' Ls (.null :: st)))) : own_Go p e below Fe Q (T.setTop (mkF m pc Ls (st))) := by
  subst hp
  exact own_st (fun _ hr => XS.aconstNull X.here hx rfl hd hr) k
theorem own_iadd (X : Stand p l e R s m args below meth c T locs cells slots) (hx : p.tables.exec = Jvm.exec) {x y : Int32} (pc' : Nat) (hp : pc + 1 = pc') (hd : decode c.code pc = .ok (.iadd, 1)) (z : Int32) (hz : x + y = z) (k : own_Go p e below Fe Q (T.setTop (mkF m pc' Ls (.int z :: st)))) : own_Go p e below Fe Q (T.setTop (mkF m pc Ls (.int y :: .int x :: st))) := by
  subst hp; subst hz
  exact own_st (fun _ hr => XS.iadd X.here hx rfl hd rfl hr) k
theorem own_isub (X : Stand p l e R s m args below meth c T locs cells slots) (hx : p.tables.exec = Jvm.exec) {x y : Int32} (pc' : Nat) (hp : pc + 1 = pc') (hd : decode c.code pc = .ok (.isub, 1)) (z : Int32) (hz : x - y = z) (k : own_Go p e below Fe Q (T.setTop (mkF m pc' Ls (.int z :: st)))) : own_Go p e below Fe Q (T.setTop (mkF m pc Ls (.int y :: .int x :: st))) := by
  subst hp; subst hz
  exact own_st (fun _ hr => XS.isub X.here hx rfl hd rfl hr) k
theorem own_imul (X : Stand p l e R s m args below meth c T locs cells slots) (hx : p.tables.exec = Jvm.exec) {x y : Int32} (pc' : Nat) (hp : pc + 1 = pc') (hd : decode c.code pc = .ok (.imul, 1)) (z : Int32) (hz : x * y = z) (k : own_Go p e below Fe Q (T.setTop (mkF m pc' Ls (.int z :: st)))) : own_Go p e below Fe Q (T.setTop (mkF m pc Ls (.int y :: .int x :: st))) := by
  subst hp; subst hz
  exact own_st (fun _ hr => XS.imul X.here hx rfl hd rfl hr) k
theorem own_iand (X : Stand p l e R s m args below meth c T locs cells slots) (hx : p.tables.exec = Jvm.exec) {x y : Int32} (pc' : Nat) (hp : pc + 1 = pc') (hd : decode c.code pc = .ok (.iand, 1)) (z : Int32) (hz : x &&& y = z) (k : own_Go p e below Fe Q (T.setTop (mkF m pc' Ls (.int z :: st)))) : own_Go p e below Fe Q (T.setTop (mkF m pc Ls (.int y :: .int x :: st))) := by
  subst hp; subst hz
  exact own_st (fun _ hr => XS.iand X.here hx rfl hd rfl hr) k
theorem own_ior (X : Stand p l e R s m args below meth c T locs cells slots) (hx : p.tables.exec = Jvm.exec) {x y : Int32} (pc' : Nat) (hp : pc + 1 = pc') (hd : decode c.code pc = .ok (.ior, 1)) (z : Int32) (hz : x ||| y = z) (k : own_Go p e below Fe Q (T.setTop (mkF m pc' Ls (.int z :: st)))) : own_Go p e below Fe Q (T.setTop (mkF m pc Ls (.int y :: .int x :: st))) := by
  subst hp; subst hz
  exact own_st (fun _ hr => XS.ior X.here hx rfl hd rfl hr) k
theorem own_ixor (X : Stand p l e R s m args below meth c T locs cells slots) (hx : p.tables.exec = Jvm.exec) {x y : Int32} (pc' : Nat) (hp : pc + 1 = pc') (hd : decode c.code pc = .ok (.ixor, 1)) (z : Int32) (hz : x ^^^ y = z) (k : own_Go p e below Fe Q (T.setTop (mkF m pc' Ls (.int z :: st)))) : own_Go p e below Fe Q (T.setTop (mkF m pc Ls (.int y :: .int x :: st))) := by
  subst hp; subst hz
  exact own_st (fun _ hr => XS.ixor X.here hx rfl hd rfl hr) k
theorem own_ineg (X : Stand p l e R s m args below meth c T locs cells slots) (hx : p.tables.exec = Jvm.exec) {x : Int32} (pc' : Nat) (hp : pc + 1 = pc') (hd : decode c.code pc = .ok (.ineg, 1)) (z : Int32) (hz : -x = z) (k : own_Go p e below Fe Q (T.setTop (mkF m pc' Ls (.int z :: st)))) : own_Go p e below Fe Q (T.setTop (mkF m pc Ls (.int x :: st))) := by
  subst hp; subst hz
  exact own_st (fun _ hr => XS.ineg X.here hx rfl hd rfl hr) k
theorem own_idiv (X : Stand p l e R s m args below meth c T locs cells slots) (hx : p.tables.exec = Jvm.exec) {x y : Int32} (pc' : Nat) (hp : pc + 1 = pc') (hd : decode c.code pc = .ok (.idiv, 1)) (hy : y ≠ 0) (z : Int32) (hz : x / y = z) (k : own_Go p e below Fe Q (T.setTop (mkF m pc' Ls (.int z :: st)))) : own_Go p e below Fe Q (T.setTop (mkF m pc Ls (.int y :: .int x :: st))) := by
  subst hp; subst hz
  exact own_st (fun _ hr => XS.idiv X.here hx rfl hd rfl hy hr) k
theorem own_ladd (X : Stand p l e R s m args below meth c T locs cells slots) (hx : p.tables.exec = Jvm.exec) {x y : Int64} (pc' : Nat) (hp : pc + 1 = pc') (hd : decode c.code pc = .ok (.ladd, 1)) (z : Int64) (hz : x + y = z) (k : own_Go p e below Fe Q (T.setTop (mkF m pc' Ls (.long z :: st)))) : own_Go p e below Fe Q (T.setTop (mkF m pc Ls (.long y :: .long x :: st))) := by
  subst hp; subst hz
  exact own_st (fun _ hr => XS.ladd X.here hx rfl hd rfl hr) k
theorem own_lsub (X : Stand p l e R s m args below meth c T locs cells slots) (hx : p.tables.exec = Jvm.exec) {x y : Int64} (pc' : Nat) (hp : pc + 1 = pc') (hd : decode c.code pc = .ok (.lsub, 1)) (z : Int64) (hz : x - y = z) (k : own_Go p e below Fe Q (T.setTop (mkF m pc' Ls (.long z :: st)))) : own_Go p e below Fe Q (T.setTop (mkF m pc Ls (.long y :: .long x :: st))) := by
  subst hp; subst hz
  exact own_st (fun _ hr => XS.lsub X.here hx rfl hd rfl hr) k
theorem own_lmul (X : Stand p l e R s m args below meth c T locs cells slots) (hx : p.tables.exec = Jvm.exec) {x y : Int64} (pc' : Nat) (hp : pc + 1 = pc') (hd : decode c.code pc = .ok (.lmul, 1)) (z : Int64) (hz : x * y = z) (k : own_Go p e below Fe Q (T.setTop (mkF m pc' Ls (.long z :: st)))) : own_Go p e below Fe Q (T.setTop (mkF m pc Ls (.long y :: .long x :: st))) := by
  subst hp; subst hz
  exact own_st (fun _ hr => XS.lmul X.here hx rfl hd rfl hr) k
theorem own_land (X : Stand p l e R s m args below meth c T locs cells slots) (hx : p.tables.exec = Jvm.exec) {x y : Int64} (pc' : Nat) (hp : pc + 1 = pc') (hd : decode c.code pc = .ok (.land, 1)) (z : Int64) (hz : x &&& y = z) (k : own_Go p e below Fe Q (T.setTop (mkF m pc' Ls (.long z :: st)))) : own_Go p e below Fe Q (T.setTop (mkF m pc Ls (.long y :: .long x :: st))) := by
  subst hp; subst hz
  exact own_st (fun _ hr => XS.land X.here hx rfl hd rfl hr) k
theorem own_lor (X : Stand p l e R s m args below meth c T locs cells slots) (hx : p.tables.exec = Jvm.exec) {x y : Int64} (pc' : Nat) (hp : pc + 1 = pc') (hd : decode c.code pc = .ok (.lor, 1)) (z : Int64) (hz : x ||| y = z) (k : own_Go p e below Fe Q (T.setTop (mkF m pc' Ls (.long z :: st)))) : own_Go p e below Fe Q (T.setTop (mkF m pc Ls (.long y :: .long x :: st))) := by
  subst hp; subst hz
  exact own_st (fun _ hr => XS.lor X.here hx rfl hd rfl hr) k
theorem own_lxor (X : Stand p l e R s m args below meth c T locs cells slots) (hx : p.tables.exec = Jvm.exec) {x y : Int64} (pc' : Nat) (hp : pc + 1 = pc') (hd : decode c.code pc = .ok (.lxor, 1)) (z : Int64) (hz : x ^^^ y = z) (k : own_Go p e below Fe Q (T.setTop (mkF m pc' Ls (.long z :: st)))) : own_Go p e below Fe Q (T.setTop (mkF m pc Ls (.long y :: .long x :: st))) := by
  subst hp; subst hz
  exact own_st (fun _ hr => XS.lxor X.here hx rfl hd rfl hr) k
theorem own_lneg (X : Stand p l e R s m args below meth c T locs cells slots) (hx : p.tables.exec = Jvm.exec) {x : Int64} (pc' : Nat) (hp : pc + 1 = pc') (hd : decode c.code pc = .ok (.lneg, 1)) (z : Int64) (hz : -x = z) (k : own_Go p e below Fe Q (T.setTop (mkF m pc' Ls (.long z :: st)))) : own_Go p e below Fe Q (T.setTop (mkF m pc Ls (.long x :: st))) := by
  subst hp; subst hz
  exact own_st (fun _ hr => XS.lneg X.here hx rfl hd rfl hr) k
theorem own_ldiv (X : Stand p l e R s m args below meth c T locs cells slots) (hx : p.tables.exec = Jvm.exec) {x y : Int64} (pc' : Nat) (hp : pc + 1 = pc') (hd : decode c.code pc = .ok (.ldiv, 1)) (hy : y ≠ 0) (z : Int64) (hz : x / y = z) (k : own_Go p e below Fe Q (T.setTop (mkF m pc' Ls (.long z :: st)))) : own_Go p e below Fe Q (T.setTop (mkF m pc Ls (.long y :: .long x :: st))) := by
  subst hp; subst hz
  exact own_st (fun _ hr => XS.ldiv X.here hx rfl hd rfl hy hr) k
theorem own_irem (X : Stand p l e R s m args below meth c T locs cells slots) (hx : p.tables.exec = Jvm.exec) {x y : Int32} (pc' : Nat) (hp : pc + 1 = pc') (hd : decode c.code pc = .ok (.irem, 1)) (hy : y ≠ 0) (z : Int32) (hz : x % y = z) (k : own_Go p e below Fe Q (T.setTop (mkF m pc' Ls (.int z :: st)))) : own_Go p e below Fe Q (T.setTop (mkF m pc Ls (.int y :: .int x :: st))) := by
  subst hp; subst hz
  exact own_st (fun _ hr => iremM (g := mkF m pc Ls (.int y :: .int x :: st)) X hx rfl hd rfl hy hr) k
theorem own_lrem (X : Stand p l e R s m args below meth c T locs cells slots) (hx : p.tables.exec = Jvm.exec) {x y : Int64} (pc' : Nat) (hp : pc + 1 = pc') (hd : decode c.code pc = .ok (.lrem, 1)) (hy : y ≠ 0) (z : Int64) (hz : x % y = z) (k : own_Go p e below Fe Q (T.setTop (mkF m pc' Ls (.long z :: st)))) : own_Go p e below Fe Q (T.setTop (mkF m pc Ls (.long y :: .long x :: st))) := by
  subst hp; subst hz
  exact own_st (fun _ hr => XS.lrem X.here hx rfl hd rfl hy (by rw [lrem_mod]; exact hr)) k
theorem own_ishl (X : Stand p l e R s m args below meth c T locs cells slots) (hx : p.tables.exec = Jvm.exec) {x : Int32} {y : Int32} (pc' : Nat) (hp : pc + 1 = pc') (hd : decode c.code pc = .ok (.ishl, 1)) (z : Int32) (hz : x <<< (y &&& 31) = z) (k : own_Go p e below Fe Q (T.setTop (mkF m pc' Ls (.int z :: st)))) : own_Go p e below Fe Q (T.setTop (mkF m pc Ls (.int y :: .int x :: st))) := by
  subst hp; subst hz
  exact own_st (fun _ hr => XS.ishl X.here hx rfl hd rfl hr) k
theorem own_ishr (X : Stand p l e R s m args below meth c T locs cells slots) (hx : p.tables.exec = Jvm.exec) {x : Int32} {y : Int32} (pc' : Nat) (hp : pc + 1 = pc') (hd : decode c.code pc = .ok (.ishr, 1)) (z : Int32) (hz : x >>> (y &&& 31) = z) (k : own_Go p e below Fe Q (T.setTop (mkF m pc' Ls (.int z :: st)))) : own_Go p e below Fe Q (T.setTop (mkF m pc Ls (.int y :: .int x :: st))) := by
  subst hp; subst hz
  exact own_st (fun _ hr => XS.ishr X.here hx rfl hd rfl hr) k
theorem own_iushr (X : Stand p l e R s m args below meth c T locs cells slots) (hx : p.tables.exec = Jvm.exec) {x : Int32} {y : Int32} (pc' : Nat) (hp : pc + 1 = pc') (hd : decode c.code pc = .ok (.iushr, 1)) (z : Int32) (hz : (x.toUInt32 >>> (y &&& 31).toUInt32).toInt32 = z) (k : own_Go p e below Fe Q (T.setTop (mkF m pc' Ls (.int z :: st)))) : own_Go p e below Fe Q (T.setTop (mkF m pc Ls (.int y :: .int x :: st))) := by
  subst hp; subst hz
  exact own_st (fun _ hr => XS.iushr X.here hx rfl hd rfl hr) k
theorem own_lshl (X : Stand p l e R s m args below meth c T locs cells slots) (hx : p.tables.exec = Jvm.exec) {x : Int64} {y : Int32} (pc' : Nat) (hp : pc + 1 = pc') (hd : decode c.code pc = .ok (.lshl, 1)) (z : Int64) (hz : x <<< (y &&& 0x3f).toInt64 = z) (k : own_Go p e below Fe Q (T.setTop (mkF m pc' Ls (.long z :: st)))) : own_Go p e below Fe Q (T.setTop (mkF m pc Ls (.int y :: .long x :: st))) := by
  subst hp; subst hz
  exact own_st (fun _ hr => XS.lshl X.here hx rfl hd rfl hr) k
theorem own_lshr (X : Stand p l e R s m args below meth c T locs cells slots) (hx : p.tables.exec = Jvm.exec) {x : Int64} {y : Int32} (pc' : Nat) (hp : pc + 1 = pc') (hd : decode c.code pc = .ok (.lshr, 1)) (z : Int64) (hz : x >>> (y &&& 0x3f).toInt64 = z) (k : own_Go p e below Fe Q (T.setTop (mkF m pc' Ls (.long z :: st)))) : own_Go p e below Fe Q (T.setTop (mkF m pc Ls (.int y :: .long x :: st))) := by
  subst hp; subst hz
  exact own_st (fun _ hr => XS.lshr X.here hx rfl hd rfl hr) k
theorem own_lushr (X : Stand p l e R s m args below meth c T locs cells slots) (hx : p.tables.exec = Jvm.exec) {x : Int64} {y : Int32} (pc' : Nat) (hp : pc + 1 = pc') (hd : decode c.code pc = .ok (.lushr, 1)) (z : Int64) (hz : (x.toUInt64 >>> (y &&& 0x3f).toInt64.toUInt64).toInt64 = z) (k : own_Go p e below Fe Q (T.setTop (mkF m pc' Ls (.long z :: st)))) : own_Go p e below Fe Q (T.setTop (mkF m pc Ls (.int y :: .long x :: st))) := by
  subst hp; subst hz
  exact own_st (fun _ hr => XS.lushr X.here hx rfl hd rfl hr) k
theorem own_i2l (X : Stand p l e R s m args below meth c T locs cells slots) (hx : p.tables.exec = Jvm.exec) {x : Int32} (pc' : Nat) (hp : pc + 1 = pc') (hd : decode c.code pc = .ok (.i2l, 1)) (z : Int64) (hz : x.toInt64 = z) (k : own_Go p e below Fe Q (T.setTop (mkF m pc' Ls (.long z :: st)))) : own_Go p e below Fe Q (T.setTop (mkF m pc Ls (.int x :: st))) := by
  subst hp; subst hz
  exact own_st (fun _ hr => XS.i2l X.here hx rfl hd rfl hr) k
theorem own_l2i (X : Stand p l e R s m args below meth c T locs cells slots) (hx : p.tables.exec = Jvm.exec) {x : Int64} (pc' : Nat) (hp : pc + 1 = pc') (hd : decode c.code pc = .ok (.l2i, 1)) (z : Int32) (hz : x.toInt32 = z) (k : own_Go p e below Fe Q (T.setTop (mkF m pc' Ls (.int z :: st)))) : own_Go p e below Fe Q (T.setTop (mkF m pc Ls (.long x :: st))) := by
  subst hp; subst hz
  exact own_st (fun _ hr => XS.l2i X.here hx rfl hd rfl hr) k
theorem own_i2b (X : Stand p l e R s m args below meth c T locs cells slots) (hx : p.tables.exec = Jvm.exec) {x : Int32} (pc' : Nat) (hp : pc + 1 = pc') (hd : decode c.code pc = .ok (.i2b, 1)) (z : Int32) (hz : x.toInt8.toInt32 = z) (k : own_Go p e below Fe Q (T.setTop (mkF m pc' Ls (.int z :: st)))) : own_Go p e below Fe Q (T.setTop (mkF m pc Ls (.int x :: st))) := by
  subst hp; subst hz
  exact own_st (fun _ hr => XS.i2b X.here hx rfl hd rfl hr) k
theorem own_i2s (X : Stand p l e R s m args below meth c T locs cells slots) (hx : p.tables.exec = Jvm.exec) {x : Int32} (pc' : Nat) (hp : pc + 1 = pc') (hd : decode c.code pc = .ok (.i2s, 1)) (z : Int32) (hz : x.toInt16.toInt32 = z) (k : own_Go p e below Fe Q (T.setTop (mkF m pc' Ls (.int z :: st)))) : own_Go p e below Fe Q (T.setTop (mkF m pc Ls (.int x :: st))) := by
  subst hp; subst hz
  exact own_st (fun _ hr => XS.i2s X.here hx rfl hd rfl hr) k
theorem own_i2c (X : Stand p l e R s m args below meth c T locs cells slots) (hx : p.tables.exec = Jvm.exec) {x : Int32} (pc' : Nat) (hp : pc + 1 = pc') (hd : decode c.code pc = .ok (.i2c, 1)) (z : Int32) (hz : x.toUInt32.toUInt16.toUInt32.toInt32 = z) (k : own_Go p e below Fe Q (T.setTop (mkF m pc' Ls (.int z :: st)))) : own_Go p e below Fe Q (T.setTop (mkF m pc Ls (.int x :: st))) := by
  subst hp; subst hz
  exact own_st (fun _ hr => XS.i2c X.here hx rfl hd rfl hr) k
theorem own_lcmp (X : Stand p l e R s m args below meth c T locs cells slots) (hx : p.tables.exec = Jvm.exec) {x y : Int64} (pc' : Nat) (hp : pc + 1 = pc') (hd : decode c.code pc = .ok (.lcmp, 1)) (z : Int32) (hz : lcmpW x y = z) (k : own_Go p e below Fe Q (T.setTop (mkF m pc' Ls (.int z :: st)))) : own_Go p e below Fe Q (T.setTop (mkF m pc Ls (.long y :: .long x :: st))) := by
  subst hp; subst hz
  exact own_st (fun _ hr => XS.lcmp X.here hx rfl hd rfl hr) k
theorem own_i2d (X : Stand p l e R s m args below meth c T locs cells slots) (hx : p.tables.exec = Jvm.exec) {x : Int32} (pc' : Nat) (hp : pc + 1 = pc') (hd : decode c.code pc = .ok (.i2d, 1)) (z : UInt64) (hz : FP.i2d x = z) (k : own_Go p e below Fe Q (T.setTop (mkF m pc' Ls (.double z :: st)))) : own_Go p e below Fe Q (T.setTop (mkF m pc Ls (.int x :: st))) := by
  subst hp
  exact own_st (fun _ hr => XS.i2dS X.here hx rfl hd rfl hz hr) k
theorem own_l2d (X : Stand p l e R s m args below meth c T locs cells slots) (hx : p.tables.exec = Jvm.exec) {x : Int64} (pc' : Nat) (hp : pc + 1 = pc') (hd : decode c.code pc = .ok (.l2d, 1)) (z : UInt64) (hz : FP.l2d x = z) (k : own_Go p e below Fe Q (T.setTop (mkF m pc' Ls (.double z :: st)))) : own_Go p e below Fe Q (T.setTop (mkF m pc Ls (.long x :: st))) := by
  subst hp
  exact own_st (fun _ hr => XS.l2dS X.here hx rfl hd rfl hz hr) k
theorem own_d2i (X : Stand p l e R s m args below meth c T locs cells slots) (hx : p.tables.exec = Jvm.exec) {x : UInt64} (pc' : Nat) (hp : pc + 1 = pc') (hd : decode c.code pc = .ok (.d2i, 1)) (z : Int32) (hz : FP.d2i x = z) (k : own_Go p e below Fe Q (T.setTop (mkF m pc' Ls (.int z :: st)))) : own_Go p e below Fe Q (T.setTop (mkF m pc Ls (.double x :: st))) := by
  subst hp
  exact own_st (fun _ hr => XS.d2iS X.here hx rfl hd rfl hz hr) k
theorem own_d2l (X : Stand p l e R s m args below meth c T locs cells slots) (hx : p.tables.exec = Jvm.exec) {x : UInt64} (pc' : Nat) (hp : pc + 1 = pc') (hd : decode c.code pc = .ok (.d2l, 1)) (z : Int64) (hz : FP.d2l x = z) (k : own_Go p e below Fe Q (T.setTop (mkF m pc' Ls (.long z :: st)))) : own_Go p e below Fe Q (T.setTop (mkF m pc Ls (.double x :: st))) := by
  subst hp
  exact own_st (fun _ hr => XS.d2lS X.here hx rfl hd rfl hz hr) k
theorem own_dneg (X : Stand p l e R s m args below meth c T locs cells slots) (hx : p.tables.exec = Jvm.exec) {x : UInt64} (pc' : Nat) (hp : pc + 1 = pc') (hd : decode c.code pc = .ok (.dneg, 1)) (z : UInt64) (hz : FP.dneg x = z) (k : own_Go p e below Fe Q (T.setTop (mkF m pc' Ls (.double z :: st)))) : own_Go p e below Fe Q (T.setTop (mkF m pc Ls (.double x :: st))) := by
  subst hp
  exact own_st (fun _ hr => XS.dnegS X.here hx rfl hd rfl hz hr) k
theorem own_dadd (X : Stand p l e R s m args below meth c T locs cells slots) (hx : p.tables.exec = Jvm.exec) {x y : UInt64} (pc' : Nat) (hp : pc + 1 = pc') (hd : decode c.code pc = .ok (.dadd, 1)) (hn : NoNaN64 (FP.dadd x y)) (z : UInt64) (hz : FP.dadd x y = z) (k : own_Go p e below Fe Q (T.setTop (mkF m pc' Ls (.double z :: st)))) : own_Go p e below Fe Q (T.setTop (mkF m pc Ls (.double y :: .double x :: st))) := by
  subst hp
  exact own_st (fun _ hr => XS.daddS X.here hx rfl hd rfl hn hz hr) k
theorem own_dsub (X : Stand p l e R s m args below meth c T locs cells slots) (hx : p.tables.exec = Jvm.exec) {x y : UInt64} (pc' : Nat) (hp : pc + 1 = pc') (hd : decode c.code pc = .ok (.dsub, 1)) (hn : NoNaN64 (FP.dsub x y)) (z : UInt64) (hz : FP.dsub x y = z) (k : own_Go p e below Fe Q (T.setTop (mkF m pc' Ls (.double z :: st)))) : own_Go p e below Fe Q (T.setTop (mkF m pc Ls (.double y :: .double x :: st))) := by
  subst hp
  exact own_st (fun _ hr => XS.dsubS X.here hx rfl hd rfl hn hz hr) k
theorem own_dmul (X : Stand p l e R s m args below meth c T locs cells slots) (hx : p.tables.exec = Jvm.exec) {x y : UInt64} (pc' : Nat) (hp : pc + 1 = pc') (hd : decode c.code pc = .ok (.dmul, 1)) (hn : NoNaN64 (FP.dmul x y)) (z : UInt64) (hz : FP.dmul x y = z) (k : own_Go p e below Fe Q (T.setTop (mkF m pc' Ls (.double z :: st)))) : own_Go p e below Fe Q (T.setTop (mkF m pc Ls (.double y :: .double x :: st))) := by
  subst hp
  exact own_st (fun _ hr => XS.dmulS X.here hx rfl hd rfl hn hz hr) k
theorem own_ddiv (X : Stand p l e R s m args below meth c T locs cells slots) (hx : p.tables.exec = Jvm.exec) {x y : UInt64} (pc' : Nat) (hp : pc + 1 = pc') (hd : decode c.code pc = .ok (.ddiv, 1)) (hn : NoNaN64 (FP.ddiv x y)) (z : UInt64) (hz : FP.ddiv x y = z) (k : own_Go p e below Fe Q (T.setTop (mkF m pc' Ls (.double z :: st)))) : own_Go p e below Fe Q (T.setTop (mkF m pc Ls (.double y :: .double x :: st))) := by
  subst hp
  exact own_st (fun _ hr => XS.ddivS X.here hx rfl hd rfl hn hz hr) k
theorem own_dcmp (X : Stand p l e R s m args below meth c T locs cells slots) (hx : p.tables.exec = Jvm.exec) {o : CmpOp} {x y : UInt64} (pc' : Nat) (hp : pc + 1 = pc') (hd : decode c.code pc = .ok (.dcmp o, 1)) (z : Int32) (hz : cmpValue (FP.dcmp x y) o = z) (k : own_Go p e below Fe Q (T.setTop (mkF m pc' Ls (.int z :: st)))) : own_Go p e below Fe Q (T.setTop (mkF m pc Ls (.double y :: .double x :: st))) := by
  subst hp
  exact own_st (fun _ hr => XS.dcmpS X.here hx rfl hd rfl hz hr) k
theorem own_iinc (X : Stand p l e R s m args below meth c T locs cells slots) (hx : p.tables.exec = Jvm.exec) {i : Nat} {cst : Int} {x : Int32} (pc' : Nat) (hp : pc + 3 = pc') (hd : decode c.code pc = .ok (.iinc i cst, 3)) (hl : Ls[i]? = some (.val (.int x))) (Ls' : Array Slot) (hl' : storeLocals Ls i (.int (x + Int32.ofInt cst)) = some Ls') (k : own_Go p e below Fe Q (T.setTop (mkF m pc' Ls' (st)))) : own_Go p e below Fe Q (T.setTop (mkF m pc Ls (st))) := by
  subst hp
  exact own_st (fun _ hr => XS.iinc X.here hx rfl hd hl hl' hr) k
theorem own_dup (X : Stand p l e R s m args below meth c T locs cells slots) (hx : p.tables.exec = Jvm.exec) {x : Value} (pc' : Nat) (hp : pc + 1 = pc') (hd : decode c.code pc = .ok (.dup, 1)) (hc : x.category = 1) (k : own_Go p e below Fe Q (T.setTop (mkF m pc' Ls (x :: x :: st)))) : own_Go p e below Fe Q (T.setTop (mkF m pc Ls (x :: st))) := by
  subst hp
  exact own_st (fun _ hr => XS.dup X.here hx rfl hd rfl hc hr) k
theorem own_dupX1 (X : Stand p l e R s m args below meth c T locs cells slots) (hx : p.tables.exec = Jvm.exec) {x y : Value} (pc' : Nat) (hp : pc + 1 = pc') (hd : decode c.code pc = .ok (.dup_x1, 1)) (hc : x.category = 1) (hc' : y.category = 1) (k : own_Go p e below Fe Q (T.setTop (mkF m pc' Ls (x :: y :: x :: st)))) : own_Go p e below Fe Q (T.setTop (mkF m pc Ls (x :: y :: st))) := by
  subst hp
  exact own_st (fun _ hr => XS.dupX1 X.here hx rfl hd rfl hc hc' hr) k
theorem own_pop (X : Stand p l e R s m args below meth c T locs cells slots) (hx : p.tables.exec = Jvm.exec) {x : Value} (pc' : Nat) (hp : pc + 1 = pc') (hd : decode c.code pc = .ok (.pop, 1)) (hc : x.category = 1) (k : own_Go p e below Fe Q (T.setTop (mkF m pc' Ls (st)))) : own_Go p e below Fe Q (T.setTop (mkF m pc Ls (x :: st))) := by
  subst hp
  exact own_st (fun _ hr => XS.pop X.here hx rfl hd rfl hc hr) k
theorem own_goto (X : Stand p l e R s m args below meth c T locs cells slots) (hx : p.tables.exec = Jvm.exec)  {o : Int} (pc' : Nat) (hd : decode c.code pc = .ok (.goto o, 3))  (ho : 0 ≤ (pc : Int) + o) (hp : ((pc : Int) + o).toNat = pc') (k : own_Go p e below Fe Q (T.setTop (mkF m pc' Ls (st)))) : own_Go p e below Fe Q (T.setTop (mkF m pc Ls (st))) :=
  own_st (fun _ hr => XS.goto X.here hx rfl rfl hd ho hp hr) k
theorem own_ifYes (X : Stand p l e R s m args below meth c T locs cells slots) (hx : p.tables.exec = Jvm.exec) {cd : ClassFile.Cond} {x : Int32} {o : Int} (pc' : Nat) (hd : decode c.code pc = .ok (.ifCond cd o, 3)) (hc : ifCond.holds cd x = true) (ho : 0 ≤ (pc : Int) + o) (hp : ((pc : Int) + o).toNat = pc') (k : own_Go p e below Fe Q (T.setTop (mkF m pc' Ls (st)))) : own_Go p e below Fe Q (T.setTop (mkF m pc Ls (.int x :: st))) :=
  own_st (fun _ hr => XS.ifYes X.here hx rfl rfl hd rfl hc ho hp hr) k
theorem own_icmpYes (X : Stand p l e R s m args below meth c T locs cells slots) (hx : p.tables.exec = Jvm.exec) {cd : ClassFile.Cond} {x y : Int32} {o : Int} (pc' : Nat) (hd : decode c.code pc = .ok (.if_icmp cd o, 3)) (hc : if_icmp.holds cd x y = true) (ho : 0 ≤ (pc : Int) + o) (hp : ((pc : Int) + o).toNat = pc') (k : own_Go p e below Fe Q (T.setTop (mkF m pc' Ls (st)))) : own_Go p e below Fe Q (T.setTop (mkF m pc Ls (.int y :: .int x :: st))) :=
  own_st (fun _ hr => XS.icmpYes X.here hx rfl rfl hd rfl hc ho hp hr) k
theorem own_ifnullYes (X : Stand p l e R s m args below meth c T locs cells slots) (hx : p.tables.exec = Jvm.exec)  {o : Int} (pc' : Nat) (hd : decode c.code pc = .ok (.ifnull o, 3))  (ho : 0 ≤ (pc : Int) + o) (hp : ((pc : Int) + o).toNat = pc') (k : own_Go p e below Fe Q (T.setTop (mkF m pc' Ls (st)))) : own_Go p e below Fe Q (T.setTop (mkF m pc Ls (.null :: st))) :=
  own_st (fun _ hr => XS.ifnullYes X.here hx rfl rfl hd rfl ho hp hr) k
theorem own_ifnonnullYes (X : Stand p l e R s m args below meth c T locs cells slots) (hx : p.tables.exec = Jvm.exec) {b : Addr} {o : Int} (pc' : Nat) (hd : decode c.code pc = .ok (.ifnonnull o, 3))  (ho : 0 ≤ (pc : Int) + o) (hp : ((pc : Int) + o).toNat = pc') (k : own_Go p e below Fe Q (T.setTop (mkF m pc' Ls (st)))) : own_Go p e below Fe Q (T.setTop (mkF m pc Ls (.ref b :: st))) :=
  own_st (fun _ hr => XS.ifnonnullYes X.here hx rfl rfl hd rfl ho hp hr) k
theorem own_ifNo (X : Stand p l e R s m args below meth c T locs cells slots) (hx : p.tables.exec = Jvm.exec) {cd : ClassFile.Cond} {o : Int} {x : Int32} (pc' : Nat) (hp : pc + 3 = pc') (hd : decode c.code pc = .ok (.ifCond cd o, 3)) (hc : ifCond.holds cd x = false) (k : own_Go p e below Fe Q (T.setTop (mkF m pc' Ls (st)))) : own_Go p e below Fe Q (T.setTop (mkF m pc Ls (.int x :: st))) := by
  subst hp
  exact own_st (fun _ hr => XS.ifNo X.here hx rfl hd rfl hc hr) k
theorem own_icmpNo (X : Stand p l e R s m args below meth c T locs cells slots) (hx : p.tables.exec = Jvm.exec) {cd : ClassFile.Cond} {o : Int} {x y : Int32} (pc' : Nat) (hp : pc + 3 = pc') (hd : decode c.code pc = .ok (.if_icmp cd o, 3)) (hc : if_icmp.holds cd x y = false) (k : own_Go p e below Fe Q (T.setTop (mkF m pc' Ls (st)))) : own_Go p e below Fe Q (T.setTop (mkF m pc Ls (.int y :: .int x :: st))) := by
  subst hp
  exact own_st (fun _ hr => XS.icmpNo X.here hx rfl hd rfl hc hr) k
theorem own_ifnullNo (X : Stand p l e R s m args below meth c T locs cells slots) (hx : p.tables.exec = Jvm.exec) {o : Int} {b : Addr} (pc' : Nat) (hp : pc + 3 = pc') (hd : decode c.code pc = .ok (.ifnull o, 3))  (k : own_Go p e below Fe Q (T.setTop (mkF m pc' Ls (st)))) : own_Go p e below Fe Q (T.setTop (mkF m pc Ls (.ref b :: st))) := by
  subst hp
  exact own_st (fun _ hr => XS.ifnullNo X.here hx rfl hd rfl hr) k
theorem own_ifnonnullNo (X : Stand p l e R s m args below meth c T locs cells slots) (hx : p.tables.exec = Jvm.exec) {o : Int} (pc' : Nat) (hp : pc + 3 = pc') (hd : decode c.code pc = .ok (.ifnonnull o, 3))  (k : own_Go p e below Fe Q (T.setTop (mkF m pc' Ls (st)))) : own_Go p e below Fe Q (T.setTop (mkF m pc Ls (.null :: st))) := by
  subst hp
  exact own_st (fun _ hr => XS.ifnonnullNo X.here hx rfl hd rfl hr) k
theorem own_acmp (X : Stand p l e R s m args below meth c T locs cells slots) (hx : p.tables.exec = Jvm.exec) {cd : ACond} {x y : Value} {o : Int} (same : Bool) (pc' : Nat) (hd : decode c.code pc = .ok (.if_acmp cd o, 3)) (h1 : x.isRef = true) (h2 : y.isRef = true) (hq : decide (x = y) = same) (ho : 0 ≤ (pc : Int) + o) (hp : pc' = if acV cd same = true then ((pc : Int) + o).toNat else pc + 3) (k : own_Go p e below Fe Q (T.setTop (mkF m pc' Ls st))) : own_Go p e below Fe Q (T.setTop (mkF m pc Ls (y :: x :: st))) :=
  own_st (fun _ hr => Jvm.RoadKit.acmp (g := mkF m pc Ls (y :: x :: st)) X hx rfl h1 h2 (pc0 := pc) (pc' := pc') (same := same) rfl hd rfl hq ho hp hr) k
theorem own_tsw (X : Stand p l e R s m args below meth c T locs cells slots) (hx : p.tables.exec = Jvm.exec) {dflt low high : Int} {offs : Array Int} {len : Nat} {i : Int32} {o : Int} (pc' : Nat) (hd : decode c.code pc = .ok (.tableswitch dflt low high offs, len)) (hin : ¬ (i.toInt < low ∨ i.toInt > high)) (hoff : offs[(i.toInt - low).toNat]? = some o) (ho : 0 ≤ (pc : Int) + o) (hp : ((pc : Int) + o).toNat = pc') (k : own_Go p e below Fe Q (T.setTop (mkF m pc' Ls st))) : own_Go p e below Fe Q (T.setTop (mkF m pc Ls (.int i :: st))) :=
  own_st (fun _ hr => XS.tswIn X.here hx rfl rfl hd rfl hin hoff ho hp hr) k
theorem own_ldcI (X : Stand p l e R s m args below meth c T locs cells slots) (hx : p.tables.exec = Jvm.exec) (hZ : Z.Warmed39 s.vm) {own : String} {index : Nat} (hown : s.vm.findClass own = some m.cls) {z : Int32} (w : (Jvm.Cond.constant own index z).before a0 Z = true) (pc' : Nat) (hp : pc + 2 = pc') (hd : decode c.code pc = .ok (.ldc index, 2)) (k : own_Go p e below Fe Q (T.setTop (mkF m pc' Ls (.int z :: st)))) : own_Go p e below Fe Q (T.setTop (mkF m pc Ls st)) := by
  subst hp
  exact own_st (X.ldcInt hx hown (mvT hZ w) (g := mkF m pc Ls st) rfl hd) k
theorem own_ldcWI (X : Stand p l e R s m args below meth c T locs cells slots) (hx : p.tables.exec = Jvm.exec) (hZ : Z.Warmed39 s.vm) {own : String} {index : Nat} (hown : s.vm.findClass own = some m.cls) {z : Int32} (w : (Jvm.Cond.constant own index z).before a0 Z = true) (pc' : Nat) (hp : pc + 3 = pc') (hd : decode c.code pc = .ok (.ldc_w index, 3)) (k : own_Go p e below Fe Q (T.setTop (mkF m pc' Ls (.int z :: st)))) : own_Go p e below Fe Q (T.setTop (mkF m pc Ls st)) := by
  subst hp
  exact own_st (X.ldcwInt hx hown (mvT hZ w) (g := mkF m pc Ls st) rfl hd) k
theorem own_ldcJ (X : Stand p l e R s m args below meth c T locs cells slots) (hx : p.tables.exec = Jvm.exec) (hZ : Z.Warmed39 s.vm) {own : String} {index : Nat} (hown : s.vm.findClass own = some m.cls) {z : Int64} (w : (Jvm.Cond.constantLong own index z).before a0 Z = true) (pc' : Nat) (hp : pc + 3 = pc') (hd : decode c.code pc = .ok (.ldc2_w index, 3)) (k : own_Go p e below Fe Q (T.setTop (mkF m pc' Ls (.long z :: st)))) : own_Go p e below Fe Q (T.setTop (mkF m pc Ls st)) := by
  subst hp
  exact own_st (X.ldc2Long hx hown (mvT hZ w) (g := mkF m pc Ls st) rfl hd) k
theorem own_ldcD (X : Stand p l e R s m args below meth c T locs cells slots) (hx : p.tables.exec = Jvm.exec) (hZ : Z.Warmed39 s.vm) {own : String} {index : Nat} (hown : s.vm.findClass own = some m.cls) {z : UInt64} (w : (Jvm.Cond.constantDouble own index z).before a0 Z = true) (pc' : Nat) (hp : pc + 3 = pc') (hd : decode c.code pc = .ok (.ldc2_w index, 3)) (k : own_Go p e below Fe Q (T.setTop (mkF m pc' Ls (.double z :: st)))) : own_Go p e below Fe Q (T.setTop (mkF m pc Ls st)) := by
  subst hp
  exact own_st (X.ldc2DoubleC hx hown (mvT hZ w) (g := mkF m pc Ls st) rfl hd) k
theorem own_getS (X : Stand p l e R s m args below meth c T locs cells slots) (hx : p.tables.exec = Jvm.exec) (hZ : Z.Warmed39 s.vm) {own R0 O n d host : String} {index : Nat} (hown : s.vm.findClass own = some m.cls) (w : (Jvm.Cond.fieldLink own index R0 n d).before a0 Z = true ∨ (Jvm.Cond.fieldLinkNest own index R0 n d host).before a0 Z = true) (via : Via Z R0 O n d) (eT : T.heap = h) {v : Value} (F : Sta Z h O n d v) (pc' : Nat) (hp : pc + 3 = pc') (hd : decode c.code pc = .ok (.getstatic index, 3))
    (k : ∀ T', Stand p l e R s m args below meth c T' locs cells slots → T'.heap = h → own_Go p e below Fe Q (T'.setTop (mkF m pc' Ls (v :: st)))) : own_Go p e below Fe Q (T.setTop (mkF m pc Ls st)) := by
  subst hp
  obtain ⟨T', X', e', st'⟩ := getS2 X hx hZ hown w via eT F (g := mkF m pc Ls st) rfl hd
  exact own_st st' (k T' X' e')
theorem own_getF (X : Stand p l e R s m args below meth c T locs cells slots) (hx : p.tables.exec = Jvm.exec) (hZ : Z.Warmed39 s.vm) {own R0 O n d host : String} {index : Nat} (hown : s.vm.findClass own = some m.cls) (w : (Jvm.Cond.fieldLink own index R0 n d).before a0 Z = true ∨ (Jvm.Cond.fieldLinkNest own index R0 n d host).before a0 Z = true) (via : Via Z R0 O n d) (eT : T.heap = h) {a : Addr} {v : Value} (F : Fld Z h a O n d v) (pc' : Nat) (hp : pc + 3 = pc') (hd : decode c.code pc = .ok (.getfield index, 3))
    (k : ∀ T', Stand p l e R s m args below meth c T' locs cells slots → T'.heap = h → own_Go p e below Fe Q (T'.setTop (mkF m pc' Ls (v :: st)))) : own_Go p e below Fe Q (T.setTop (mkF m pc Ls (.ref a :: st))) := by
  subst hp
  obtain ⟨T', X', e', st'⟩ := getF X hx hZ hown w via eT F (g := mkF m pc Ls (.ref a :: st)) rfl rfl hd
  exact own_st st' (k T' X' e')
theorem own_putF (X : Stand p l e R s m args below meth c T locs cells slots) (hx : p.tables.exec = Jvm.exec) (hZ : Z.Warmed39 s.vm) {own R0 O n d host C : String} {index kk : Nat} {ty : FieldType} (hown : s.vm.findClass own = some m.cls) (w : (Jvm.Cond.fieldLink own index R0 n d).before a0 Z = true ∨ (Jvm.Cond.fieldLinkNest own index R0 n d host).before a0 Z = true) (via : Via Z R0 O n d) (eT : T.heap = h) {a : Addr} {v old : Value} (F : Fld Z h a O n d old) (E : Exa Z h a C)
    (L : (Jvm.Cond.lays C O n d).before a0 Z = true ∨ ((Jvm.Cond.laysFinal C O n d).before a0 Z = true ∧ own = O ∧ meth.name = "<init>")) (wi : (Jvm.Cond.instantiable C kk).before a0 Z = true) (hty : parseFieldDescriptor d = some ty) (hn : narrow ty v = v) (hf : Jvm.fits ty v = true) (pc' : Nat) (hp : pc + 3 = pc') (hd : decode c.code pc = .ok (.putfield index, 3))
    (k : ∀ T' h', Stand p l e R s m args below meth c T' (locs ++ [⟨a, Jvm.RoadKit.slotOf Z O n d⟩]) cells slots → T'.heap = h' → Wr h h' a (Jvm.RoadKit.slotOf Z O n d) v → own_Go p e below Fe Q (T'.setTop (mkF m pc' Ls st))) : own_Go p e below Fe Q (T.setTop (mkF m pc Ls (v :: .ref a :: st))) := by
  subst hp
  obtain ⟨T', h', X', e', W', st'⟩ := putF X hx hZ hown w via eT F E L wi hty hn hf (g := mkF m pc Ls (v :: .ref a :: st)) rfl rfl hd
  exact own_st st' (k T' h' X' e' W')
theorem own_putFN (X : Stand p l e R s m args below meth c T locs cells slots) (hx : p.tables.exec = Jvm.exec) (hZ : Z.Warmed39 s.vm) {own R0 O n d C : String} {index kk : Nat} {ty : FieldType} (hown : s.vm.findClass own = some m.cls) (w : (Jvm.Cond.fieldLink own index R0 n d).before a0 Z = true) (via : Via Z R0 O n d) (eT : T.heap = h) {a : Addr} {v v' old : Value} (F : Fld Z h a O n d old) (E : Exa Z h a C)
    (L : (Jvm.Cond.lays C O n d).before a0 Z = true ∨ ((Jvm.Cond.laysFinal C O n d).before a0 Z = true ∧ own = O ∧ meth.name = "<init>")) (wi : (Jvm.Cond.instantiable C kk).before a0 Z = true) (hty : parseFieldDescriptor d = some ty) (hn : narrow ty v = v') (hf : Jvm.fits ty v' = true) (pc' : Nat) (hp : pc + 3 = pc') (hd : decode c.code pc = .ok (.putfield index, 3))
    (k : ∀ T' h', Stand p l e R s m args below meth c T' (locs ++ [⟨a, Jvm.RoadKit.slotOf Z O n d⟩]) cells slots → T'.heap = h' → Wr h h' a (Jvm.RoadKit.slotOf Z O n d) v' → own_Go p e below Fe Q (T'.setTop (mkF m pc' Ls st))) : own_Go p e below Fe Q (T.setTop (mkF m pc Ls (v :: .ref a :: st))) := by
  subst hp
  obtain ⟨T', h', X', e', W', st'⟩ := putFN X hx hZ hown w via eT F E L wi hty hn hf (g := mkF m pc Ls (v :: .ref a :: st)) rfl rfl hd
  exact own_st st' (k T' h' X' e' W')
theorem own_new (X : Stand p l e R s m args below meth c T locs cells slots) (hx : p.tables.exec = Jvm.exec) (hZ : Z.Warmed39 s.vm) {own C : String} {index n : Nat} (hown : s.vm.findClass own = some m.cls) (w : (Jvm.Cond.classLink own index C).before a0 Z = true) (wi : (Jvm.Cond.instantiable C n).before a0 Z = true) (wz : (Jvm.Cond.initialized C).before a0 Z = true) (eT : T.heap = h) (pc' : Nat) (hp : pc + 3 = pc') (hd : decode c.code pc = .ok (.new index, 3)) (hc : cells + 1 ≤ R.cells) (hl : slots + n ≤ R.slots)
    (k : ∀ T' h' b, b = h.size → Stand p l e R s m args below meth c T' locs (cells + 1) (slots + n) → T'.heap = h' → Ext h h' → Exa Z h' b C → (∀ {O nm d : String} {ty : FieldType}, Laid Z a0 C O nm d → parseFieldDescriptor d = some ty → Fld Z h' b O nm d (defaultValue ty)) → own_Go p e below Fe Q (T'.setTop (mkF m pc' Ls (.ref b :: st)))) : own_Go p e below Fe Q (T.setTop (mkF m pc Ls st)) := by
  subst hp
  obtain ⟨T', h', X', e', E', A', D', -, st'⟩ := newO X hx hZ hown w wi wz eT (g := mkF m pc Ls st) rfl hd hc hl
  exact own_st st' (k T' h' _ rfl X' e' E' A' D')
theorem own_newA (X : Stand p l e R s m args below meth c T locs cells slots) (hx : p.tables.exec = Jvm.exec) (hZ : Z.Warmed39 s.vm) {aty : ArrayType} (w : (Jvm.Cond.arrayClass (newarray.typeOf aty)).before a0 Z = true) (eT : T.heap = h) {n : Int32} (pc' : Nat) (hp : pc + 2 = pc') (hd : decode c.code pc = .ok (.newarray aty, 2)) (hn : ¬ n < 0) (cap : Nat) (hcap : n.toNatClampNeg ≤ cap) (hb : cap * 8 ≤ 536870912) (hc : cells + 1 ≤ R.cells) (hl : slots + cap ≤ R.slots) (ad : String) (had : "[" ++ (newarray.typeOf aty).toString = ad)
    (k : ∀ T' h' cA b, b = h.size → Stand p l e R s m args below meth c T' locs (cells + 1) (slots + cap) → T'.heap = h' → Ext h h' → Arr Z h' b (newA cA (newarray.typeOf aty) n) (newarray.typeOf aty) → Exa Z h' b ad → own_Go p e below Fe Q (T'.setTop (mkF m pc' Ls (.ref b :: st)))) : own_Go p e below Fe Q (T.setTop (mkF m pc Ls (.int n :: st))) := by
  subst hp
  obtain ⟨T', h', cA, X', e', E', A', C', st'⟩ := newPE X hx hZ w eT (g := mkF m pc Ls (.int n :: st)) rfl hd rfl hn hcap hb hc hl had
  exact own_st st' (k T' h' cA _ rfl X' e' E' A' C')
theorem own_stI (X : Stand p l e R s m args below meth c T locs cells slots) (hx : p.tables.exec = Jvm.exec) (hZ : Z.Warmed39 s.vm) (eT : T.heap = h) {a : Addr} {kA : ClassId} {n : Int32} {vs : List Value} {dv : Value} (F : Arv Z h a kA .int n vs dv) {j : Int32} {x : Int32} (hj : ¬ j < 0 ∧ j < n) (i : Nat) (hi : j.toNatClampNeg = i) (hl : i < vs.length) (vs' : List Value) (hvs : vs.set i (.int x) = vs') (pc' : Nat) (hp : pc + 1 = pc') (hd : decode c.code pc = .ok (.iastore, 1))
    (k : ∀ T' h', Stand p l e R s m args below meth c T' (locs ++ [⟨a, j.toNatClampNeg⟩]) cells slots → T'.heap = h' → Wr h h' a j.toNatClampNeg (.int x) → Arv Z h' a kA .int n vs' dv → own_Go p e below Fe Q (T'.setTop (mkF m pc' Ls st))) : own_Go p e below Fe Q (T.setTop (mkF m pc Ls (.int x :: .int j :: .ref a :: st))) := by
  subst hp; subst hvs
  obtain ⟨cl, Ar, q, S, N1, H, G⟩ := F
  have hin := inb_of S hj
  obtain ⟨T', h', X', e', W', st'⟩ := stI X hx hZ eT Ar (j := j) hin (g := mkF m pc Ls (.int x :: .int j :: .ref a :: st)) rfl rfl hd
  exact own_st st' (k T' h' X' e' W' (Arv.set Ar q S N1 H G rfl W' i hi hl))
theorem own_stJ (X : Stand p l e R s m args below meth c T locs cells slots) (hx : p.tables.exec = Jvm.exec) (hZ : Z.Warmed39 s.vm) (eT : T.heap = h) {a : Addr} {kA : ClassId} {n : Int32} {vs : List Value} {dv : Value} (F : Arv Z h a kA .long n vs dv) {j : Int32} {x : Int64} (hj : ¬ j < 0 ∧ j < n) (i : Nat) (hi : j.toNatClampNeg = i) (hl : i < vs.length) (vs' : List Value) (hvs : vs.set i (.long x) = vs') (pc' : Nat) (hp : pc + 1 = pc') (hd : decode c.code pc = .ok (.lastore, 1))
    (k : ∀ T' h', Stand p l e R s m args below meth c T' (locs ++ [⟨a, j.toNatClampNeg⟩]) cells slots → T'.heap = h' → Wr h h' a j.toNatClampNeg (.long x) → Arv Z h' a kA .long n vs' dv → own_Go p e below Fe Q (T'.setTop (mkF m pc' Ls st))) : own_Go p e below Fe Q (T.setTop (mkF m pc Ls (.long x :: .int j :: .ref a :: st))) := by
  subst hp; subst hvs
  obtain ⟨cl, Ar, q, S, N1, H, G⟩ := F
  have hin := inb_of S hj
  obtain ⟨T', h', X', e', W', st'⟩ := stJ X hx hZ eT Ar (j := j) hin (g := mkF m pc Ls (.long x :: .int j :: .ref a :: st)) rfl rfl hd
  exact own_st st' (k T' h' X' e' W' (Arv.set Ar q S N1 H G rfl W' i hi hl))
theorem own_stD (X : Stand p l e R s m args below meth c T locs cells slots) (hx : p.tables.exec = Jvm.exec) (hZ : Z.Warmed39 s.vm) (eT : T.heap = h) {a : Addr} {kA : ClassId} {n : Int32} {vs : List Value} {dv : Value} (F : Arv Z h a kA .double n vs dv) {j : Int32} {x : UInt64} (hj : ¬ j < 0 ∧ j < n) (i : Nat) (hi : j.toNatClampNeg = i) (hl : i < vs.length) (vs' : List Value) (hvs : vs.set i (.double x) = vs') (pc' : Nat) (hp : pc + 1 = pc') (hd : decode c.code pc = .ok (.dastore, 1))
    (k : ∀ T' h', Stand p l e R s m args below meth c T' (locs ++ [⟨a, j.toNatClampNeg⟩]) cells slots → T'.heap = h' → Wr h h' a j.toNatClampNeg (.double x) → Arv Z h' a kA .double n vs' dv → own_Go p e below Fe Q (T'.setTop (mkF m pc' Ls st))) : own_Go p e below Fe Q (T.setTop (mkF m pc Ls (.double x :: .int j :: .ref a :: st))) := by
  subst hp; subst hvs
  obtain ⟨cl, Ar, q, S, N1, H, G⟩ := F
  have hin := inb_of S hj
  obtain ⟨T', h', X', e', W', st'⟩ := stD X hx hZ eT Ar (j := j) hin (g := mkF m pc Ls (.double x :: .int j :: .ref a :: st)) rfl rfl hd
  exact own_st st' (k T' h' X' e' W' (Arv.set Ar q S N1 H G rfl W' i hi hl))
theorem own_stB (X : Stand p l e R s m args below meth c T locs cells slots) (hx : p.tables.exec = Jvm.exec) (hZ : Z.Warmed39 s.vm) (eT : T.heap = h) {a : Addr} {kA : ClassId} {n : Int32} {vs : List Value} {dv : Value} (F : Arv Z h a kA .byte n vs dv) {j : Int32} {x : Int32} (hj : ¬ j < 0 ∧ j < n) (i : Nat) (hi : j.toNatClampNeg = i) (hl : i < vs.length) (vs' : List Value) (hvs : vs.set i (.int x.toInt8.toInt32) = vs') (pc' : Nat) (hp : pc + 1 = pc') (hd : decode c.code pc = .ok (.bastore, 1))
    (k : ∀ T' h', Stand p l e R s m args below meth c T' (locs ++ [⟨a, j.toNatClampNeg⟩]) cells slots → T'.heap = h' → Wr h h' a j.toNatClampNeg (.int x.toInt8.toInt32) → Arv Z h' a kA .byte n vs' dv → own_Go p e below Fe Q (T'.setTop (mkF m pc' Ls st))) : own_Go p e below Fe Q (T.setTop (mkF m pc Ls (.int x :: .int j :: .ref a :: st))) := by
  subst hp; subst hvs
  obtain ⟨cl, Ar, q, S, N1, H, G⟩ := F
  have hin := inb_of S hj
  obtain ⟨T', h', X', e', W', st'⟩ := stB X hx hZ eT Ar (j := j) hin (g := mkF m pc Ls (.int x :: .int j :: .ref a :: st)) rfl rfl hd
  exact own_st st' (k T' h' X' e' W' (Arv.set Ar q S N1 H G (fits_nar_byte x) W' i hi hl))
theorem own_stZ (X : Stand p l e R s m args below meth c T locs cells slots) (hx : p.tables.exec = Jvm.exec) (hZ : Z.Warmed39 s.vm) (eT : T.heap = h) {a : Addr} {kA : ClassId} {n : Int32} {vs : List Value} {dv : Value} (F : Arv Z h a kA .boolean n vs dv) {j : Int32} {x : Int32} (hj : ¬ j < 0 ∧ j < n) (i : Nat) (hi : j.toNatClampNeg = i) (hl : i < vs.length) (vs' : List Value) (hvs : vs.set i (.int (nar .boolean x)) = vs') (pc' : Nat) (hp : pc + 1 = pc') (hd : decode c.code pc = .ok (.bastore, 1))
    (k : ∀ T' h', Stand p l e R s m args below meth c T' (locs ++ [⟨a, j.toNatClampNeg⟩]) cells slots → T'.heap = h' → Wr h h' a j.toNatClampNeg (.int (nar .boolean x)) → Arv Z h' a kA .boolean n vs' dv → own_Go p e below Fe Q (T'.setTop (mkF m pc' Ls st))) : own_Go p e below Fe Q (T.setTop (mkF m pc Ls (.int x :: .int j :: .ref a :: st))) := by
  subst hp; subst hvs
  obtain ⟨cl, Ar, q, S, N1, H, G⟩ := F
  have hin := inb_of S hj
  obtain ⟨T', h', X', e', W', st'⟩ := stZ X hx hZ eT Ar (j := j) hin (g := mkF m pc Ls (.int x :: .int j :: .ref a :: st)) rfl rfl hd
  exact own_st st' (k T' h' X' e' W' (Arv.set Ar q S N1 H G (fits_nar_bool x) W' i hi hl))
theorem own_stC (X : Stand p l e R s m args below meth c T locs cells slots) (hx : p.tables.exec = Jvm.exec) (hZ : Z.Warmed39 s.vm) (eT : T.heap = h) {a : Addr} {kA : ClassId} {n : Int32} {vs : List Value} {dv : Value} (F : Arv Z h a kA .char n vs dv) {j : Int32} {x : Int32} (hj : ¬ j < 0 ∧ j < n) (i : Nat) (hi : j.toNatClampNeg = i) (hl : i < vs.length) (vs' : List Value) (hvs : vs.set i (.int (nar .char x)) = vs') (pc' : Nat) (hp : pc + 1 = pc') (hd : decode c.code pc = .ok (.castore, 1))
    (k : ∀ T' h', Stand p l e R s m args below meth c T' (locs ++ [⟨a, j.toNatClampNeg⟩]) cells slots → T'.heap = h' → Wr h h' a j.toNatClampNeg (.int (nar .char x)) → Arv Z h' a kA .char n vs' dv → own_Go p e below Fe Q (T'.setTop (mkF m pc' Ls st))) : own_Go p e below Fe Q (T.setTop (mkF m pc Ls (.int x :: .int j :: .ref a :: st))) := by
  subst hp; subst hvs
  obtain ⟨cl, Ar, q, S, N1, H, G⟩ := F
  have hin := inb_of S hj
  obtain ⟨T', h', X', e', W', st'⟩ := stC X hx hZ eT Ar (j := j) hin (g := mkF m pc Ls (.int x :: .int j :: .ref a :: st)) rfl rfl hd
  exact own_st st' (k T' h' X' e' W' (Arv.set Ar q S N1 H G (fits_nar_char x) W' i hi hl))
theorem own_ldI (X : Stand p l e R s m args below meth c T locs cells slots) (hx : p.tables.exec = Jvm.exec) (hZ : Z.Warmed39 s.vm) (eT : T.heap = h) {a : Addr} {kA : ClassId} {n : Int32} {vs : List Value} {dv : Value} (F : Arv Z h a kA .int n vs dv) {j : Int32} (hj : ¬ j < 0 ∧ j < n) (x : Int32) (hv : vs.getD j.toNatClampNeg dv = (.int x)) (pc' : Nat) (hp : pc + 1 = pc') (hd : decode c.code pc = .ok (.iaload, 1))
    (k : own_Go p e below Fe Q (T.setTop (mkF m pc' Ls (.int x :: st)))) : own_Go p e below Fe Q (T.setTop (mkF m pc Ls (.int j :: .ref a :: st))) := by
  subst hp
  obtain ⟨cl, Ar, q, S, N1, H, G⟩ := F
  have hin := inb_of S hj
  exact own_st (X.iaload hx (j := j) (v := .int x) (by rw [eT]; exact Ar.1) (State.isArrayOf_alike hZ.alike Ar.2.1) Ar.2.2 hin (Has.at H hin hv) (g := mkF m pc Ls (.int j :: .ref a :: st)) rfl rfl hd) k
theorem own_ldD (X : Stand p l e R s m args below meth c T locs cells slots) (hx : p.tables.exec = Jvm.exec) (hZ : Z.Warmed39 s.vm) (eT : T.heap = h) {a : Addr} {kA : ClassId} {n : Int32} {vs : List Value} {dv : Value} (F : Arv Z h a kA .double n vs dv) {j : Int32} (hj : ¬ j < 0 ∧ j < n) (x : UInt64) (hv : vs.getD j.toNatClampNeg dv = (.double x)) (pc' : Nat) (hp : pc + 1 = pc') (hd : decode c.code pc = .ok (.daload, 1))
    (k : own_Go p e below Fe Q (T.setTop (mkF m pc' Ls (.double x :: st)))) : own_Go p e below Fe Q (T.setTop (mkF m pc Ls (.int j :: .ref a :: st))) := by
  subst hp
  obtain ⟨cl, Ar, q, S, N1, H, G⟩ := F
  have hin := inb_of S hj
  exact own_st (X.daload hx (j := j) (v := .double x) (by rw [eT]; exact Ar.1) (State.isArrayOf_alike hZ.alike Ar.2.1) Ar.2.2 hin (Has.at H hin hv) (g := mkF m pc Ls (.int j :: .ref a :: st)) rfl rfl hd) k
theorem own_ldJ (X : Stand p l e R s m args below meth c T locs cells slots) (hx : p.tables.exec = Jvm.exec) (hZ : Z.Warmed39 s.vm) (eT : T.heap = h) {a : Addr} {kA : ClassId} {n : Int32} {vs : List Value} {dv : Value} (F : Arv Z h a kA .long n vs dv) {j : Int32} (hj : ¬ j < 0 ∧ j < n) (x : Int64) (hv : vs.getD j.toNatClampNeg dv = (.long x)) (pc' : Nat) (hp : pc + 1 = pc') (hd : decode c.code pc = .ok (.laload, 1))
    (k : own_Go p e below Fe Q (T.setTop (mkF m pc' Ls (.long x :: st)))) : own_Go p e below Fe Q (T.setTop (mkF m pc Ls (.int j :: .ref a :: st))) := by
  subst hp
  obtain ⟨cl, Ar, q, S, N1, H, G⟩ := F
  have hin := inb_of S hj
  exact own_st (X.laload hx (j := j) (v := .long x) (by rw [eT]; exact Ar.1) (State.isArrayOf_alike hZ.alike Ar.2.1) Ar.2.2 hin (Has.at H hin hv) (g := mkF m pc Ls (.int j :: .ref a :: st)) rfl rfl hd) k
theorem own_len (X : Stand p l e R s m args below meth c T locs cells slots) (hx : p.tables.exec = Jvm.exec) (hZ : Z.Warmed39 s.vm) (eT : T.heap = h) {a : Addr} {kA : ClassId} {ty : FieldType} {n : Int32} {vs : List Value} {dv : Value} (F : Arv Z h a kA ty n vs dv) (pc' : Nat) (hp : pc + 1 = pc') (hd : decode c.code pc = .ok (.arraylength, 1))
    (k : own_Go p e below Fe Q (T.setTop (mkF m pc' Ls (.int n :: st)))) : own_Go p e below Fe Q (T.setTop (mkF m pc Ls (.ref a :: st))) := by
  subst hp
  obtain ⟨cl, Ar, q, S, N1, H, G⟩ := F
  refine own_st (X.arraylength hx (by rw [eT]; exact Ar.1) (State.isArrayOf_alike hZ.alike Ar.2.1) (g := mkF m pc Ls (.ref a :: st)) rfl rfl hd) ?_
  rw [len_of S N1]
  exact k
theorem own_initO (X : Stand p l e R s m args below meth c T locs cells slots) (hx : p.tables.exec = Jvm.exec) (hZ : Z.Warmed39 s.vm) {own : String} {idx : Nat} (hown : s.vm.findClass own = some m.cls) (w1 : (Jvm.Cond.methodLink own idx Lib.objectInit).before a0 Z = true) (w2 : (Jvm.Cond.instanceMethod Lib.objectInit).before a0 Z = true) (w3 : (Jvm.Cond.code Lib.objectInit ⟨#[0xb1]⟩ 1 none).before a0 Z = true) (eT : T.heap = h) (hsize : Ls.size = c.maxLocals) {a : Addr} (pc' : Nat) (hp : pc + 3 = pc') (hd : decode c.code pc = .ok (.invokespecial idx, 3)) (hf : 1 ≤ R.frames) (W : Nat) (hW : 2 * 0 + (st.map fun v => v.category).sum ≤ W) (hl : W + 12 ≤ R.locals)
    (k : ∀ T', Stand p l e R s m args below meth c T' locs cells slots → T'.heap = h → own_Go p e below Fe Q (T'.setTop (mkF m pc' Ls st))) : own_Go p e below Fe Q (T.setTop (mkF m pc Ls (.ref a :: st))) := by
  subst hp
  obtain ⟨T', X', e', st'⟩ := initO X hx hZ hown w1 w2 w3 eT (g := mkF m pc Ls (.ref a :: st)) rfl hsize rfl hd hf hW hl
  exact own_st st' (k T' X' e')
theorem own_callS (X : Stand p l e R s m args below meth c T locs cells slots) (hx : p.tables.exec = Jvm.exec) (hZ : Z.Warmed39 s.vm) {own : String} {index : Nat} {y : MethodName} (hown : s.vm.findClass own = some m.cls) (w1 : (Jvm.Cond.methodLink own index y).before a0 Z = true) (w2 : (Jvm.Cond.static y).before a0 Z = true) (hy : y.cls ≠ "java/lang/invoke/MethodHandle" ∧ y.cls ≠ "java/lang/invoke/VarHandle") {bytes : ByteArray} {maxL : Nat} {ret : Option FieldType} {rm : Room} {as' : Array Value} {Q' : Option Value → Heap → List Loc → Prop} (hM : MetFree l y (head1 [Jvm.Cond.code y bytes maxL ret] rm) (fun a U => a = as' ∧ Z.Warmed39 U.vm ∧ U.heap = h) (fun _ _ _ _ _ => True) (fun _ U o U' => ∃ v L, o = .returned v ∧ Q' v U'.heap L ∧ FrameEnd U o U' L rm.cells rm.slots)) (wc : (Jvm.Cond.code y bytes maxL ret).before a0 Z = true) (wz : (Jvm.Cond.initialized y.cls).before a0 Z = true) (hfr : rm.frames + 1 ≤ R.frames) (eT : T.heap = h) (hsize : Ls.size = c.maxLocals) (argsL : List Value) {rest : List Value} (W : Nat) (hlo : W + (maxL + 11) + rm.locals ≤ R.locals) (hW : 2 * 0 + (rest.map fun v => v.category).sum ≤ W) (hcells : cells + rm.cells ≤ R.cells) (hslots : slots + rm.slots ≤ R.slots) (hlen : ∀ sig, parseMethodDescriptor y.desc = some sig → argsL.length = sig.parameters.length) (hst : st = argsL.reverse ++ rest) (has : argsL.toArray = as') (pc' : Nat) (hp : pc + 3 = pc') (hd : decode c.code pc = .ok (.invokestatic index, 3))
    (k : ∀ v T' Lc, Stand p l e R s m args below meth c T' (locs ++ Lc) (cells + rm.cells) (slots + rm.slots) → Q' v T'.heap Lc → own_Go p e below Fe Q (T'.setTop (mkF m pc' Ls (v.toList ++ rest)))) : own_Go p e below Fe Q (T.setTop (mkF m pc Ls st)) := by
  subst hp
  obtain ⟨v, _, ⟨T', L', k', n'⟩, -, X', ⟨Lc, hQ, l1, l2, l3⟩, st'⟩ := Jvm.LawKit.callS X hx (y := y) hown (mvT hZ w1) (mvT hZ w2) (mvT hZ wz) (mvT hZ wc) hy (backOf (W := W) hM hZ wc wz hfr hlo) (g := mkF m pc Ls st) rfl hsize (argsL := argsL) (rest := rest) hlen hst hW hd (fun _ _ => ⟨has, eT, hcells, hslots⟩)
  dsimp only [Pt.U, Pt.locs, Pt.cells, Pt.slots] at X' l1 l2 l3 st' hQ
  subst l1 l2 l3
  exact own_st st' (k v T' Lc X' hQ)
theorem own_special (X : Stand p l e R s m args below meth c T locs cells slots) (hx : p.tables.exec = Jvm.exec) (hZ : Z.Warmed39 s.vm) {own : String} {index : Nat} {y : MethodName} (hown : s.vm.findClass own = some m.cls) (hy1 : y.name = "<init>") (w1 : (Jvm.Cond.methodLink own index y).before a0 Z = true) (w2 : (Jvm.Cond.instanceMethod y).before a0 Z = true) {a : Addr} (hy : y.cls ≠ "java/lang/invoke/MethodHandle" ∧ y.cls ≠ "java/lang/invoke/VarHandle") {bytes : ByteArray} {maxL : Nat} {ret : Option FieldType} {rm : Room} {as' : Array Value} {Q' : Option Value → Heap → List Loc → Prop} (hret : ret = none) (hM : MetFree l y (head1 [Jvm.Cond.code y bytes maxL ret] rm) (fun a U => a = as' ∧ Z.Warmed39 U.vm ∧ U.heap = h) (fun _ _ _ _ _ => True) (fun _ U o U' => ∃ v L, o = .returned v ∧ Q' v U'.heap L ∧ FrameEnd U o U' L rm.cells rm.slots)) (wc : (Jvm.Cond.code y bytes maxL ret).before a0 Z = true) (wz : (Jvm.Cond.initialized y.cls).before a0 Z = true) (hfr : rm.frames + 1 ≤ R.frames) (eT : T.heap = h) (hsize : Ls.size = c.maxLocals) (argsL : List Value) {rest : List Value} (W : Nat) (hlo : W + (maxL + 11) + rm.locals ≤ R.locals) (hW : 2 * 0 + (rest.map fun v => v.category).sum ≤ W) (hcells : cells + rm.cells ≤ R.cells) (hslots : slots + rm.slots ≤ R.slots) (hlen : ∀ sig, parseMethodDescriptor y.desc = some sig → argsL.length = sig.parameters.length) (hst : st = argsL.reverse ++ .ref a :: rest) (has : (.ref a :: argsL).toArray = as') (pc' : Nat) (hp : pc + 3 = pc') (hd : decode c.code pc = .ok (.invokespecial index, 3))
    (k : ∀ v T' Lc, Stand p l e R s m args below meth c T' (locs ++ Lc) (cells + rm.cells) (slots + rm.slots) → Q' v T'.heap Lc → own_Go p e below Fe Q (T'.setTop (mkF m pc' Ls (v.toList ++ rest)))) : own_Go p e below Fe Q (T.setTop (mkF m pc Ls st)) := by
  subst hp
  obtain ⟨v, _, ⟨T', L', k', n'⟩, -, X', ⟨Lc, hQ, l1, l2, l3⟩, st'⟩ := X.specialBack hx (y := y) hy1 hown (mvT hZ w1) (mvT hZ w2) (mvT hZ (hret ▸ wc)) hy (backOf (W := W) hM hZ wc wz hfr hlo) (g := mkF m pc Ls st) rfl hsize (Steps.refl _) (a := a) (argsL := argsL) (rest := rest) hlen hst hW hd (fun _ _ => ⟨has, eT, hcells, hslots⟩)
  dsimp only [Pt.U, Pt.locs, Pt.cells, Pt.slots] at X' l1 l2 l3 st' hQ
  subst l1 l2 l3
  exact own_tr st' (k v T' Lc X' hQ)
theorem own_virtual (X : Stand p l e R s m args below meth c T locs cells slots) (hx : p.tables.exec = Jvm.exec) (hZ : Z.Warmed39 s.vm) {own : String} {index : Nat} {C : String} {y z : MethodName} (hown : s.vm.findClass own = some m.cls) (w1 : (Jvm.Cond.methodLink own index y).before a0 Z = true) (w2 : (Jvm.Cond.declares y).before a0 Z = true) (w3 : (Jvm.Cond.selects C y z).before a0 Z = true) (w4 : (Jvm.Cond.instanceMethod z).before a0 Z = true) (hyz : y = z) {a : Addr} (E : Exa Z h a C) (hy : y.cls ≠ "java/lang/invoke/MethodHandle" ∧ y.cls ≠ "java/lang/invoke/VarHandle") {bytes : ByteArray} {maxL : Nat} {ret : Option FieldType} {rm : Room} {as' : Array Value} {Q' : Option Value → Heap → List Loc → Prop} (hM : MetFree l z (head1 [Jvm.Cond.code z bytes maxL ret] rm) (fun a U => a = as' ∧ Z.Warmed39 U.vm ∧ U.heap = h) (fun _ _ _ _ _ => True) (fun _ U o U' => ∃ v L, o = .returned v ∧ Q' v U'.heap L ∧ FrameEnd U o U' L rm.cells rm.slots)) (wc : (Jvm.Cond.code z bytes maxL ret).before a0 Z = true) (wz : (Jvm.Cond.initialized z.cls).before a0 Z = true) (hfr : rm.frames + 1 ≤ R.frames) (eT : T.heap = h) (hsize : Ls.size = c.maxLocals) (argsL : List Value) {rest : List Value} (W : Nat) (hlo : W + (maxL + 11) + rm.locals ≤ R.locals) (hW : 2 * 0 + (rest.map fun v => v.category).sum ≤ W) (hcells : cells + rm.cells ≤ R.cells) (hslots : slots + rm.slots ≤ R.slots) (hlen : ∀ sig, parseMethodDescriptor y.desc = some sig → argsL.length = sig.parameters.length) (hst : st = argsL.reverse ++ .ref a :: rest) (has : (.ref a :: argsL).toArray = as') (pc' : Nat) (hp : pc + 3 = pc') (hd : decode c.code pc = .ok (.invokevirtual index, 3))
    (k : ∀ v T' Lc, Stand p l e R s m args below meth c T' (locs ++ Lc) (cells + rm.cells) (slots + rm.slots) → Q' v T'.heap Lc → own_Go p e below Fe Q (T'.setTop (mkF m pc' Ls (v.toList ++ rest)))) : own_Go p e below Fe Q (T.setTop (mkF m pc Ls st)) := by
  subst hp
  obtain ⟨cB, kB, qa, qb, qc⟩ := isOf hZ eT E
  obtain ⟨v, _, ⟨T', L', k', n'⟩, -, X', ⟨Lc, hQ, l1, l2, l3⟩, st'⟩ := X.virtualBack hx (y := y) (z := z) hown (mvT hZ w1) (mvT hZ w2) (hyz ▸ notFace_of_selects (args := #[]) (mvT hZ (hyz ▸ w3 : (Jvm.Cond.selects C z z).before a0 Z = true))) (mvT hZ w3) (mvT hZ w4) hy (backOf (W := W) hM hZ wc wz hfr hlo) qa qc (g := mkF m pc Ls st) rfl hsize (Steps.refl _) (argsL := argsL) (rest := rest) hlen hst hW hd (fun _ _ => ⟨has, eT, hcells, hslots⟩)
  dsimp only [Pt.U, Pt.locs, Pt.cells, Pt.slots] at X' l1 l2 l3 st' hQ
  subst l1 l2 l3
  exact own_tr st' (k v T' Lc X' hQ)
theorem own_virtualUp (X : Stand p l e R s m args below meth c T locs cells slots) (hx : p.tables.exec = Jvm.exec) (hZ : Z.Warmed39 s.vm) {own : String} {index : Nat} {C owner : String} {x y : MethodName} (hown : s.vm.findClass own = some m.cls) (w1 : (Jvm.Cond.methodLink own index x).before a0 Z = true) (w2 : (Jvm.Cond.sameMethod x.cls owner x.name x.desc).before a0 Z = true) (w2' : (Jvm.Cond.declares ⟨owner, x.name, x.desc⟩).before a0 Z = true) (w3 : (Jvm.Cond.selects C x y).before a0 Z = true) (w4 : (Jvm.Cond.instanceMethod y).before a0 Z = true) {a : Addr} (E : Exa Z h a C) (ho : owner ≠ "java/lang/invoke/MethodHandle" ∧ owner ≠ "java/lang/invoke/VarHandle") {bytes : ByteArray} {maxL : Nat} {ret : Option FieldType} {rm : Room} {as' : Array Value} {Q' : Option Value → Heap → List Loc → Prop} (hM : MetFree l y (head1 [Jvm.Cond.code y bytes maxL ret] rm) (fun a U => a = as' ∧ Z.Warmed39 U.vm ∧ U.heap = h) (fun _ _ _ _ _ => True) (fun _ U o U' => ∃ v L, o = .returned v ∧ Q' v U'.heap L ∧ FrameEnd U o U' L rm.cells rm.slots)) (wc : (Jvm.Cond.code y bytes maxL ret).before a0 Z = true) (wz : (Jvm.Cond.initialized y.cls).before a0 Z = true) (hfr : rm.frames + 1 ≤ R.frames) (eT : T.heap = h) (hsize : Ls.size = c.maxLocals) (argsL : List Value) {rest : List Value} (W : Nat) (hlo : W + (maxL + 11) + rm.locals ≤ R.locals) (hW : 2 * 0 + (rest.map fun v => v.category).sum ≤ W) (hcells : cells + rm.cells ≤ R.cells) (hslots : slots + rm.slots ≤ R.slots) (hlen : ∀ sig, parseMethodDescriptor x.desc = some sig → argsL.length = sig.parameters.length) (hst : st = argsL.reverse ++ .ref a :: rest) (has : (.ref a :: argsL).toArray = as') (pc' : Nat) (hp : pc + 3 = pc') (hd : decode c.code pc = .ok (.invokevirtual index, 3))
    (k : ∀ v T' Lc, Stand p l e R s m args below meth c T' (locs ++ Lc) (cells + rm.cells) (slots + rm.slots) → Q' v T'.heap Lc → own_Go p e below Fe Q (T'.setTop (mkF m pc' Ls (v.toList ++ rest)))) : own_Go p e below Fe Q (T.setTop (mkF m pc Ls st)) := by
  subst hp
  obtain ⟨cB, kB, qa, qb, qc⟩ := isOf hZ eT E
  obtain ⟨v, _, ⟨T', L', k', n'⟩, -, X', ⟨Lc, hQ, l1, l2, l3⟩, st'⟩ := X.virtualBackUp hx (x := x) (y := y) (owner := owner) hown (mvT hZ w1) (mvT hZ w2) (mvT hZ w2') ho (mvT hZ w3) (mvT hZ w4) (backOf (W := W) hM hZ wc wz hfr hlo) qa qc (g := mkF m pc Ls st) rfl hsize (Steps.refl _) (argsL := argsL) (rest := rest) hlen hst hW hd (fun _ _ => ⟨has, eT, hcells, hslots⟩)
  dsimp only [Pt.U, Pt.locs, Pt.cells, Pt.slots] at X' l1 l2 l3 st' hQ
  subst l1 l2 l3
  exact own_tr st' (k v T' Lc X' hQ)
theorem own_private (X : Stand p l e R s m args below meth c T locs cells slots) (hx : p.tables.exec = Jvm.exec) (hZ : Z.Warmed39 s.vm) {own : String} {index : Nat} {y z : MethodName} (hown : s.vm.findClass own = some m.cls) (w1 : (Jvm.Cond.methodLink own index y).before a0 Z = true) (w2 : (Jvm.Cond.instanceMethod y).before a0 Z = true) (hz : z.cls = y.cls) (w3 : (Jvm.Cond.selects z.cls z z).before a0 Z = true) (w4 : (Jvm.Cond.privateMethod y).before a0 Z = true) {a : Addr} (E : Exa Z h a y.cls) (hy : y.cls ≠ "java/lang/invoke/MethodHandle" ∧ y.cls ≠ "java/lang/invoke/VarHandle") {bytes : ByteArray} {maxL : Nat} {ret : Option FieldType} {rm : Room} {as' : Array Value} {Q' : Option Value → Heap → List Loc → Prop} (hM : MetFree l y (head1 [Jvm.Cond.code y bytes maxL ret] rm) (fun a U => a = as' ∧ Z.Warmed39 U.vm ∧ U.heap = h) (fun _ _ _ _ _ => True) (fun _ U o U' => ∃ v L, o = .returned v ∧ Q' v U'.heap L ∧ FrameEnd U o U' L rm.cells rm.slots)) (wc : (Jvm.Cond.code y bytes maxL ret).before a0 Z = true) (wz : (Jvm.Cond.initialized y.cls).before a0 Z = true) (hfr : rm.frames + 1 ≤ R.frames) (eT : T.heap = h) (hsize : Ls.size = c.maxLocals) (argsL : List Value) {rest : List Value} (W : Nat) (hlo : W + (maxL + 11) + rm.locals ≤ R.locals) (hW : 2 * 0 + (rest.map fun v => v.category).sum ≤ W) (hcells : cells + rm.cells ≤ R.cells) (hslots : slots + rm.slots ≤ R.slots) (hlen : ∀ sig, parseMethodDescriptor y.desc = some sig → argsL.length = sig.parameters.length) (hst : st = argsL.reverse ++ .ref a :: rest) (has : (.ref a :: argsL).toArray = as') (pc' : Nat) (hp : pc + 3 = pc') (hd : decode c.code pc = .ok (.invokevirtual index, 3))
    (k : ∀ v T' Lc, Stand p l e R s m args below meth c T' (locs ++ Lc) (cells + rm.cells) (slots + rm.slots) → Q' v T'.heap Lc → own_Go p e below Fe Q (T'.setTop (mkF m pc' Ls (v.toList ++ rest)))) : own_Go p e below Fe Q (T.setTop (mkF m pc Ls st)) := by
  subst hp
  obtain ⟨cq, q1, q2⟩ := E.cell
  have hsel : (Jvm.Cond.selects y.cls y y).before args s = true := by
    obtain ⟨c2, r2, m2, -, -, q3, -, kP, hkP, hkPi⟩ := Cond.selects_spec (mvT hZ w3 : (Jvm.Cond.selects z.cls z z).before args s = true)
    exact selects_self_of_private (hz ▸ findClass_of_methodNamed q3) hkP hkPi (Cond.privateMethod_at (mvP hZ w4 (args := #[]))) (mvT hZ w2) hy
  obtain ⟨v, _, ⟨T', L', k', n'⟩, -, X', ⟨Lc, hQ, l1, l2, l3⟩, st'⟩ := X.privateBack hx (y := y) hown (mvT hZ w1) (mvT hZ w2) hsel (Cond.privateMethod_at (mvP hZ w4 (args := #[]))) (mvT hZ wc) hy (backOf (W := W) hM hZ wc wz hfr hlo) (g := mkF m pc Ls st) rfl hsize (Steps.refl _) (a := a) (by rw [eT]; exact q1) q2 (argsL := argsL) (rest := rest) hlen hst hW hd (fun _ _ => ⟨has, eT, hcells, hslots⟩)
  dsimp only [Pt.U, Pt.locs, Pt.cells, Pt.slots] at X' l1 l2 l3 st' hQ
  subst l1 l2 l3
  exact own_tr st' (k v T' Lc X' hQ)
theorem own_rawbits (X : Stand p l e R s m args below meth c T locs cells slots) (hx : p.tables.exec = Jvm.exec) (hZ : Z.Warmed39 s.vm) {own : String} {index : Nat} (hown : s.vm.findClass own = some m.cls) (w1 : (Jvm.Cond.methodLink own index doubleToRawLongBitsName).before a0 Z = true) (w2 : (Jvm.Cond.native doubleToRawLongBitsName).before a0 Z = true) (w3 : (Jvm.Cond.static doubleToRawLongBitsName).before a0 Z = true) (w4 : (Jvm.Cond.initialized "java/lang/Double").before a0 Z = true) (eT : T.heap = h) (hsize : Ls.size = c.maxLocals) {b : UInt64} (pc' : Nat) (hp : pc + 3 = pc') (hd : decode c.code pc = .ok (.invokestatic index, 3)) (hf : 1 ≤ R.frames) (W : Nat) (hW : 2 * 0 + (st.map fun v => v.category).sum ≤ W) (hl : W + 15 ≤ R.locals)
    (k : ∀ T', Stand p l e R s m args below meth c T' locs cells slots → T'.heap = h → own_Go p e below Fe Q (T'.setTop (mkF m pc' Ls (.long b.toInt64 :: st)))) : own_Go p e below Fe Q (T.setTop (mkF m pc Ls (.double b :: st))) := by
  subst hp
  obtain ⟨vm', X', st'⟩ := X.doubleToRawLongBits hx hown (mvT hZ w1) (mvT hZ w2) (mvT hZ w3) (mvT hZ w4) (g := mkF m pc Ls (.double b :: st)) rfl hsize (rest := st) (b := b) rfl hd hf (Nat.le_trans (Nat.add_le_add_right hW _) hl)
  exact own_st st' (k _ X' eT)
end OwnSteps
section OwnY
variable {p : Program} {l : Launch} {e : Env} {R : Room} {s : State} {m : MethodId} {args : Array Value} {below : List Frame} {meth : Method} {c : Code} {T : State} {locs : List Loc} {cells slots : Nat} {Fe : Outcome → State → List Loc → Prop} {Q : Option Value → Heap → List Loc → Prop} {pc : Nat} {Ls : Array Slot} {st : List Value} {Z : State} {a0 : Array Value} {h : Heap}
theorem own_ldC (X : Stand p l e R s m args below meth c T locs cells slots) (hx : p.tables.exec = Jvm.exec) (hZ : Z.Warmed39 s.vm) (eT : T.heap = h) {a : Addr} {kA : ClassId} {n : Int32} {vs : List Value} {dv : Value} (F : Arv Z h a kA .char n vs dv) {j : Int32} (hj : ¬ j < 0 ∧ j < n) (x : Int32) (hv : vs.getD j.toNatClampNeg dv = (.int x)) (pc' : Nat) (hp : pc + 1 = pc') (hd : decode c.code pc = .ok (.caload, 1))
    (k : own_Go p e below Fe Q (T.setTop (mkF m pc' Ls (.int x :: st)))) : own_Go p e below Fe Q (T.setTop (mkF m pc Ls (.int j :: .ref a :: st))) := by
  subst hp
  obtain ⟨cl, Ar, q, S, N1, H, G⟩ := F
  have hin := inb_of S hj
  exact own_st (X.caload hx (j := j) (v := .int x) (by rw [eT]; exact Ar.1) (State.isArrayOf_alike hZ.alike Ar.2.1) Ar.2.2 hin (Has.at H hin hv) (g := mkF m pc Ls (.int j :: .ref a :: st)) rfl rfl hd) k
theorem own_ldR (X : Stand p l e R s m args below meth c T locs cells slots) (hx : p.tables.exec = Jvm.exec) (hZ : Z.Warmed39 s.vm) (eT : T.heap = h) {a : Addr} {kA : ClassId} {ty : FieldType} {n : Int32} {vs : List Value} {dv : Value} (F : Arv Z h a kA ty n vs dv) (hty : ty.isReference = true) {j : Int32} (hj : ¬ j < 0 ∧ j < n) (x : Addr) (hv : vs.getD j.toNatClampNeg dv = (.ref x)) (pc' : Nat) (hp : pc + 1 = pc') (hd : decode c.code pc = .ok (.aaload, 1))
    (k : own_Go p e below Fe Q (T.setTop (mkF m pc' Ls (.ref x :: st)))) : own_Go p e below Fe Q (T.setTop (mkF m pc Ls (.int j :: .ref a :: st))) := by
  subst hp
  obtain ⟨cl, Ar, q, S, N1, H, G⟩ := F
  have hin := inb_of S hj
  exact own_st (X.aaload hx (j := j) (v := .ref x) (by rw [eT]; exact Ar.1) (State.isArrayOf_alike hZ.alike Ar.2.1) hty Ar.2.2 hin (Has.at H hin hv) (g := mkF m pc Ls (.int j :: .ref a :: st)) rfl rfl hd) k
theorem own_stR (X : Stand p l e R s m args below meth c T locs cells slots) (hx : p.tables.exec = Jvm.exec) (hZ : Z.Warmed39 s.vm) (eT : T.heap = h) {a : Addr} {kA : ClassId} {ty : FieldType} {n : Int32} {vs : List Value} {dv : Value} (F : Arv Z h a kA ty n vs dv) (hty : ty.isReference = true) {C : String} (O : Ovr Z kA C) {y : Addr} (I : Ins Z h y C true) (hfit : fits ty (.ref y) = true) {j : Int32} (hj : ¬ j < 0 ∧ j < n) (i : Nat) (hi : j.toNatClampNeg = i) (hl : i < vs.length) (vs' : List Value) (hvs : vs.set i (.ref y) = vs') (pc' : Nat) (hp : pc + 1 = pc') (hd : decode c.code pc = .ok (.aastore, 1))
    (k : ∀ T' h', Stand p l e R s m args below meth c T' (locs ++ [⟨a, j.toNatClampNeg⟩]) cells slots → T'.heap = h' → Wr h h' a j.toNatClampNeg (.ref y) → Arv Z h' a kA ty n vs' dv → own_Go p e below Fe Q (T'.setTop (mkF m pc' Ls st))) : own_Go p e below Fe Q (T.setTop (mkF m pc Ls (.ref y :: .int j :: .ref a :: st))) := by
  subst hp; subst hvs
  obtain ⟨cl, Ar, q, S, N1, H, G⟩ := F
  have hin := inb_of S hj
  obtain ⟨T', h', X', e', W', st'⟩ := stR X hx hZ eT Ar (j := j) hin hty (Sto.ofV Ar q O I) (g := mkF m pc Ls (.ref y :: .int j :: .ref a :: st)) rfl rfl hd
  exact own_st st' (k T' h' X' e' W' (Arv.set Ar q S N1 H G hfit W' i hi hl))
theorem own_newR (X : Stand p l e R s m args below meth c T locs cells slots) (hx : p.tables.exec = Jvm.exec) (hZ : Z.Warmed39 s.vm) {own C : String} {index : Nat} (hown : s.vm.findClass own = some m.cls) (w1 : (Jvm.Cond.classLink own index C).before a0 Z = true) (w2 : (Jvm.Cond.arrayOver (.object C)).before a0 Z = true) (eT : T.heap = h) {n : Int32} (pc' : Nat) (hp : pc + 3 = pc') (hd : decode c.code pc = .ok (.anewarray index, 3)) (hn : ¬ n < 0) (cap : Nat) (hcap : n.toNatClampNeg ≤ cap) (hb : cap * 8 ≤ 536870912) (hc : cells + 1 ≤ R.cells) (hl : slots + cap ≤ R.slots)
    (k : ∀ T' h' cA b, b = h.size → Stand p l e R s m args below meth c T' locs (cells + 1) (slots + cap) → T'.heap = h' → Ext h h' → Arr Z h' b (newA cA (.object C) n) (.object C) → Ovr Z cA C → own_Go p e below Fe Q (T'.setTop (mkF m pc' Ls (.ref b :: st)))) : own_Go p e below Fe Q (T.setTop (mkF m pc Ls (.int n :: st))) := by
  subst hp
  obtain ⟨T', h', cA, X', e', E', A', O', st'⟩ := newR X hx hZ hown w1 w2 eT (g := mkF m pc Ls (.int n :: st)) rfl hd rfl hn hcap hb hc hl
  exact own_st st' (k T' h' cA _ rfl X' e' E' A' O')
theorem own_iface (X : Stand p l e R s m args below meth c T locs cells slots) (hx : p.tables.exec = Jvm.exec) (hZ : Z.Warmed39 s.vm) {own : String} {index count : Nat} {C : String} {xi y : MethodName} (hown : s.vm.findClass own = some m.cls) (w1 : (Jvm.Cond.methodLink own index xi).before a0 Z = true) (w2 : (Jvm.Cond.declares xi).before a0 Z = true) (w3 : (Jvm.Cond.interfaceMethod xi.cls xi.cls xi.name xi.desc).before a0 Z = true) (h3 : ((Jvm.Cond.interfaceMethod xi.cls xi.cls xi.name xi.desc).onTables && (Jvm.Cond.interfaceMethod xi.cls xi.cls xi.name xi.desc).keepsFace) = true) (w4 : (Jvm.Cond.selects C xi y).before a0 Z = true) (w5 : (Jvm.Cond.instanceMethod y).before a0 Z = true) (w6 : (Jvm.Cond.publicMethod y).before a0 Z = true) (w7 : (Jvm.Cond.unhidden C xi.name xi.desc).before a0 Z = true) (w8 : (Jvm.Cond.castable C xi.cls).before a0 Z = true) {a : Addr} (E : Exa Z h a C) (hy : xi.cls ≠ "java/lang/invoke/MethodHandle" ∧ xi.cls ≠ "java/lang/invoke/VarHandle") {bytes : ByteArray} {maxL : Nat} {ret : Option FieldType} {rm : Room} {as' : Array Value} {Q' : Option Value → Heap → List Loc → Prop} (hM : MetFree l y (head1 [Jvm.Cond.code y bytes maxL ret] rm) (fun a U => a = as' ∧ Z.Warmed39 U.vm ∧ U.heap = h) (fun _ _ _ _ _ => True) (fun _ U o U' => ∃ v L, o = .returned v ∧ Q' v U'.heap L ∧ FrameEnd U o U' L rm.cells rm.slots)) (wc : (Jvm.Cond.code y bytes maxL ret).before a0 Z = true) (wz : (Jvm.Cond.initialized y.cls).before a0 Z = true) (hfr : rm.frames + 1 ≤ R.frames) (eT : T.heap = h) (hsize : Ls.size = c.maxLocals) (argsL : List Value) {rest : List Value} (W : Nat) (hlo : W + (maxL + 11) + rm.locals ≤ R.locals) (hW : 2 * 0 + (rest.map fun v => v.category).sum ≤ W) (hcells : cells + rm.cells ≤ R.cells) (hslots : slots + rm.slots ≤ R.slots) (hlen : ∀ sig, parseMethodDescriptor xi.desc = some sig → argsL.length = sig.parameters.length) (hst : st = argsL.reverse ++ .ref a :: rest) (has : (.ref a :: argsL).toArray = as') (pc' : Nat) (hp : pc + 5 = pc') (hd : decode c.code pc = .ok (.invokeinterface index count, 5))
    (k : ∀ v T' Lc, Stand p l e R s m args below meth c T' (locs ++ Lc) (cells + rm.cells) (slots + rm.slots) → Q' v T'.heap Lc → own_Go p e below Fe Q (T'.setTop (mkF m pc' Ls (v.toList ++ rest)))) : own_Go p e below Fe Q (T.setTop (mkF m pc Ls st)) := by
  subst hp
  obtain ⟨cB, kB, qa, qb, qc⟩ := isOf hZ eT E
  obtain ⟨v, _, ⟨T', L', k', n'⟩, -, X', ⟨Lc, hQ, l1, l2, l3⟩, st'⟩ := X.interfaceBack hx (xi := xi) (y := y) hown (mvT hZ w1) (mvT hZ w2) (mvT hZ w3 h3) (mvT hZ w4) (mvT hZ w5) (mvT hZ w6) (mvT hZ w7) (mvT hZ w8) hy (backOf (W := W) hM hZ wc wz hfr hlo) qa qb qc (g := mkF m pc Ls st) rfl hsize (Steps.refl _) (argsL := argsL) (rest := rest) hlen hst hW hd (fun _ _ => ⟨has, eT, hcells, hslots⟩)
  dsimp only [Pt.U, Pt.locs, Pt.cells, Pt.slots] at X' l1 l2 l3 st' hQ
  subst l1 l2 l3
  exact own_tr st' (k v T' Lc X' hQ)
/-- the Class object of the class C is made -/
def own_Mi (Z : State) (C : String) (mr : Addr) : Prop := ∃ (c : ClassId) (k : Class), Z.vm.findClass C = some c ∧ Z.vm.classes[c]? = some k ∧ k.mirror = some mr
theorem own_ifm {r o n d : String} (hZ : Z.Warmed39 s.vm) (w : (Jvm.Cond.interfaceMethod r o n d).before a0 Z = true) : (Jvm.Cond.interfaceMethod r o n d).before args s = true := by
  obtain ⟨c, k, mm, h1, h2, h3, h4, h5⟩ := Cond.interfaceMethod_spec w
  have e1 : s.vm.findClass r = some c := by rw [hZ.alike.findClass]; exact h1
  obtain ⟨k', q, ek⟩ := hZ.alike.2.2 _ _ h2
  have e3 : k'.isInterface = true := by rw [ek]; exact h3
  have e4 : s.methodFound? r n d = some mm := (State.methodFound?_setVm (s := Z) hZ.alike r n d).trans h4
  have e5 : s.methodNamed? ⟨o, n, d⟩ = some mm := (State.methodNamed?_setVm (s := Z) hZ.alike ⟨o, n, d⟩).trans h5
  exact Cond.before_iff.mpr (by simp [Cond.value, e1, q, e3, e4, e5])
theorem own_gclsI (X : Stand p l e R s m args below meth c T locs cells slots) (hx : p.tables.exec = Jvm.exec) (hZ : Z.Warmed39 s.vm) {own C : String} {index count : Nat} {xi : MethodName} (hown : s.vm.findClass own = some m.cls) (w1 : (Jvm.Cond.methodLink own index xi).before a0 Z = true) (w2 : (Jvm.Cond.declares Jvm.Stand.gcN).before a0 Z = true) (w3 : (Jvm.Cond.interfaceMethod xi.cls "java/lang/Object" xi.name xi.desc).before a0 Z = true) (w4 : (Jvm.Cond.selects C xi Jvm.Stand.gcN).before a0 Z = true) (w5 : (Jvm.Cond.instanceMethod Jvm.Stand.gcN).before a0 Z = true) (w6 : (Jvm.Cond.publicMethod Jvm.Stand.gcN).before a0 Z = true) (w7 : (Jvm.Cond.unhidden C xi.name xi.desc).before a0 Z = true) (w8 : (Jvm.Cond.castable C xi.cls).before a0 Z = true) (w9 : (Jvm.Cond.native Jvm.Stand.gcN).before a0 Z = true) (hy : xi.cls ≠ "java/lang/invoke/MethodHandle" ∧ xi.cls ≠ "java/lang/invoke/VarHandle") (hyo : xi.cls ≠ "java/lang/Object") (hn : xi.name = "getClass") (hde : xi.desc = "()Ljava/lang/Class;") (eT : T.heap = h) (hsize : Ls.size = c.maxLocals) {a : Addr} (E : Exa Z h a C) {mr : Addr} (M : own_Mi Z C mr) (pc' : Nat) (hp : pc + 5 = pc') (hd : decode c.code pc = .ok (.invokeinterface index count, 5)) (hf : 1 ≤ R.frames) (W : Nat) (hW : 2 * 0 + (st.map fun v => v.category).sum ≤ W) (hl : W + (nativeFrameWords "java/lang/Object" "getClass" 1 + 11) ≤ R.locals)
    (k : ∀ T', Stand p l e R s m args below meth c T' locs cells slots → T'.heap = h → own_Go p e below Fe Q (T'.setTop (mkF m pc' Ls (.ref mr :: st)))) : own_Go p e below Fe Q (T.setTop (mkF m pc Ls (.ref a :: st))) := by
  subst hp
  obtain ⟨cB, kB, i1, i2, i3⟩ := isOf hZ eT E
  obtain ⟨cc, kc, m1, m2, m3⟩ := M
  have j1 := i1
  rw [hZ.alike.findClass] at j1
  cases j1.symm.trans m1
  obtain ⟨k', q, ek⟩ := hZ.alike.2.2 _ _ m2
  obtain ⟨vm', X', st'⟩ := X.getClassOfI hx (C := C) hown (mvT hZ w1) (mvT hZ w2) (own_ifm hZ w3) (mvT hZ w4) (mvT hZ w5) (mvT hZ w6) (mvT hZ w7) (mvT hZ w8) (mvT hZ w9) hy hyo hn hde i1 q i3 (by rw [ek]; exact m3) (g := mkF m pc Ls (.ref a :: st)) rfl hsize (rest := st) rfl hd hf (Nat.le_trans (Nat.add_le_add_right hW _) hl)
  exact own_st st' (k _ X' eT)
theorem own_ldcM (X : Stand p l e R s m args below meth c T locs cells slots) (hx : p.tables.exec = Jvm.exec) (hZ : Z.Warmed39 s.vm) {own C : String} {index : Nat} (hown : s.vm.findClass own = some m.cls) (w1 : (Jvm.Cond.classLink own index C).before a0 Z = true) {mr : Addr} (M : own_Mi Z C mr) (eT : T.heap = h) (pc' : Nat) (hp : pc + 2 = pc') (hd : decode c.code pc = .ok (.ldc index, 2))
    (k : ∀ T', Stand p l e R s m args below meth c T' locs cells slots → T'.heap = h → own_Go p e below Fe Q (T'.setTop (mkF m pc' Ls (.ref mr :: st)))) : own_Go p e below Fe Q (T.setTop (mkF m pc Ls st)) := by
  subst hp
  obtain ⟨cc, kc, m1, m2, m3⟩ := M
  obtain ⟨k', q, ek⟩ := hZ.alike.2.2 _ _ m2
  have f1 : s.vm.findClass C = some cc := by rw [hZ.alike.findClass]; exact m1
  have f2 : k'.mirror = some mr := by rw [ek]; exact m3
  have hev : (Term.mirror C).eval args s none [] s = some (.ref mr) := by simp [Term.eval, f1, q, f2]
  obtain ⟨vm', X', st'⟩ := X.ldcMirror hx hown (mvT hZ w1) hev (g := mkF m pc Ls st) rfl hd
  exact own_st st' (k _ X' eT)
end OwnY
/-- the cache of Long: old cells, each with its number -/
def own_Ca (Z : State) (h : Heap) (n0 : Nat) : Prop := ∃ (aC : Addr) (kC : ClassId) (vs : List Value), Sta Z h "java/lang/Long$LongCache" "cache" "[Ljava/lang/Long;" (.ref aC) ∧ Arv Z h aC kC (.object "java/lang/Long") (256 : Int32) vs .null ∧ aC < n0 ∧ ∀ i : Nat, i < 256 → ∃ y : Addr, y < n0 ∧ vs.getD i .null = .ref y ∧ Exa Z h y "java/lang/Long" ∧ Fld Z h y "java/lang/Long" "value" "J" (.long (Int64.ofInt ((i : Int) - 128)))
section OwnCa
variable {Z : State} {h h' : Heap} {n0 : Nat}
theorem own_Ca.ext (F : own_Ca Z h n0) (E : Ext h h') : own_Ca Z h' n0 := by
  obtain ⟨aC, kC, vs, f1, f2, f3, f4⟩ := F
  refine ⟨aC, kC, vs, f1.ext E, f2.ext E, f3, fun i hi => ?_⟩
  obtain ⟨y, y1, y2, y3, y4⟩ := f4 i hi
  exact ⟨y, y1, y2, y3.ext E, y4.ext E⟩
theorem own_Ca.wr {a : Addr} {sl : Nat} {v : Value} (F : own_Ca Z h n0) (W : Wr h h' a sl v) (g : n0 ≤ a) : own_Ca Z h' n0 := by
  obtain ⟨aC, kC, vs, f1, f2, f3, f4⟩ := F
  refine ⟨aC, kC, vs, f1.wr W, f2.other W (Nat.ne_of_lt (Nat.lt_of_lt_of_le f3 g)), f3, fun i hi => ?_⟩
  obtain ⟨y, y1, y2, y3, y4⟩ := f4 i hi
  exact ⟨y, y1, y2, y3.wr W, y4.other W (Or.inl (Nat.ne_of_lt (Nat.lt_of_lt_of_le y1 g)))⟩
theorem own_nmem {a n0 : Nat} {ws : List Addr} (q : ∀ x ∈ ws, n0 ≤ x) (g : a < n0) : a ∉ ws := fun m => Nat.lt_irrefl _ (Nat.lt_of_lt_of_le g (q a m))
theorem own_staKeep' {C n d : String} {v : Value} {ws : List Addr} (F : Sta Z h C n d v) (K : Keep h h' ws) (hn : ∀ x ∈ ws, ∀ cell : Cell, h[x]? = some cell → cell.vm.isStatics = false) : Sta Z h' C n d v := own_staKeep F K hn
theorem own_Ca.keep {ws : List Addr} (F : own_Ca Z h n0) (K : Keep h h' ws) (q : ∀ x ∈ ws, n0 ≤ x) (hn : ∀ x ∈ ws, ∀ cell : Cell, h[x]? = some cell → cell.vm.isStatics = false) : own_Ca Z h' n0 := by
  obtain ⟨aC, kC, vs, f1, f2, f3, f4⟩ := F
  refine ⟨aC, kC, vs, own_staKeep f1 K hn, f2.keep K (own_nmem q f3), f3, fun i hi => ?_⟩
  obtain ⟨y, y1, y2, y3, y4⟩ := f4 i hi
  exact ⟨y, y1, y2, y3.keep K, y4.keep K (own_nmem q y1)⟩
end OwnCa
theorem own_on {r y n H : Nat} (s : r < n ∨ H ≤ r) (g : n ≤ y) (l : y < H) : y ≠ r := by omega
theorem own_onC {y : Int64} (h1 : ¬ lcmpW y (-128) < 0) (h2 : ¬ 0 < lcmpW y 127) : ∃ i : Nat, i < 256 ∧ (y.toInt32 + (128 : Int32)).toNatClampNeg = i ∧ Int64.ofInt ((i : Int) - 128) = y ∧ (¬ (y.toInt32 + (128 : Int32)) < 0 ∧ (y.toInt32 + (128 : Int32)) < (256 : Int32)) := by
  have c1 := c_lcmp y (-128)
  have c2 := c_lcmp y 127
  have e1 : ((-128 : Int64)).toInt = -128 := by decide
  have e2 : ((127 : Int64)).toInt = 127 := by decide
  have e0 : ((0 : Int32)).toInt = 0 := by decide
  have e3 : ((128 : Int32)).toInt = 128 := by decide
  have e4 : ((256 : Int32)).toInt = 256 := by decide
  rw [Int32.lt_iff_toInt_lt] at h1 h2
  have l1 : -128 ≤ y.toInt := by omega
  have l2 : y.toInt ≤ 127 := by omega
  have k1 := c_l2i y
  have k2 := rng32 y.toInt32
  have k3 : y.toInt32.toInt = y.toInt := by omega
  have k4 := c_iadd y.toInt32 128
  have k5 := rng32 (y.toInt32 + 128)
  have k6 : (y.toInt32 + (128 : Int32)).toInt = y.toInt + 128 := by omega
  refine ⟨(y.toInt + 128).toNat, by omega, ?_, ?_, ?_⟩
  · show (y.toInt32 + (128 : Int32)).toInt.toNat = _
    rw [k6]
  · refine Int64.toInt_inj.mp ?_
    rw [Int64.toInt_ofInt_of_le (by omega) (by omega)]
    omega
  · rw [Int32.lt_iff_toInt_lt, Int32.lt_iff_toInt_lt]
    omega
theorem own_ch {y : Int32} (h0 : 0 ≤ y.toInt) (h1 : y.toInt ≤ 255) : ¬ (255 : Int32) < nar .char (y.toUInt32.toUInt16.toUInt32.toInt32) := by
  have k1 := c_i2c y
  have k2 := c_i2c (y.toUInt32.toUInt16.toUInt32.toInt32)
  have e : ((255 : Int32)).toInt = 255 := by decide
  show ¬ (255 : Int32) < (y.toUInt32.toUInt16.toUInt32.toInt32).toUInt32.toUInt16.toUInt32.toInt32
  rw [Int32.lt_iff_toInt_lt]
  omega
theorem own_m255 (y : Int32) : 0 ≤ (y &&& (255 : Int32)).toInt ∧ (y &&& (255 : Int32)).toInt ≤ 255 := by
  rw [c_mask y 255 8 (by decide) (by decide)]; omega
theorem own_ch1 {y : Int32} (h0 : 0 ≤ y.toInt) (h1 : y.toInt ≤ 255) : ¬ (255 : Int32) < y.toUInt32.toUInt16.toUInt32.toInt32 := by
  have k1 := c_i2c y
  have e : ((255 : Int32)).toInt = 255 := by decide
  rw [Int32.lt_iff_toInt_lt]
  omega
theorem own_pn0 : plainName "java/lang/Number" = true := by first | (simp [plainName, overriddenIn]; done) | decide +kernel
theorem own_ef_rm_num (m : MethodId) (o : Addr) : entryFrame m #[(.ref o)] 1 = mkF m 0 #[.val (.ref o)] [] := by first | (simp [entryFrame, mkF, argsToLocals, Value.category]; done) | rfl
def Q_rm_num (Z : State) (o : Addr) (h0 : Heap) (n0 : Nat) (v : Option Value) (h : Heap) (L : List Loc) : Prop := v = none ∧ Fr n0 L ∧ h = h0
theorem own_d18_0 : decode jdk_18_method_1_code 0 = .ok (.aload_n 0, 1) := by decide +kernel
theorem own_d18_1 : decode jdk_18_method_1_code 1 = .ok (.invokespecial 1, 3) := by decide +kernel
theorem own_d18_4 : decode jdk_18_method_1_code 4 = .ok (.return_, 1) := by decide +kernel
set_option maxRecDepth 65536 in
set_option maxHeartbeats 40000000 in
theorem rm_num (l : Launch) (Z : State) (a0 : Array Value) (hw : ∀ d ∈ tables_1, d.before a0 Z = true) (ws : List Jvm.Cond) (o : Addr) (h0 : Heap) (n0 : Nat) (Z0 : n0 ≤ h0.size)  :
    MetFree l (⟨"java/lang/Number", "<init>", "()V"⟩ : MethodName) (head1 (Jvm.Cond.code (⟨"java/lang/Number", "<init>", "()V"⟩ : MethodName) jdk_18_method_1_code 1 none :: ws) ({ frames := 1, cells := 0, slots := 0, locals := 12 } : Room)) (fun aa U => aa = #[(.ref o)] ∧ Z.Warmed39 U.vm ∧ U.heap = h0) (fun _ _ _ _ _ => True) (fun _ U ou U' => ∃ v L, ou = .returned v ∧ Q_rm_num Z o h0 n0 v U'.heap L ∧ FrameEnd U ou U' L ({ frames := 1, cells := 0, slots := 0, locals := 12 } : Room).cells ({ frames := 1, cells := 0, slots := 0, locals := 12 } : Room).slots) := by
  refine MetFree.of_bodySF (plainFor_of_name own_pn0) hisR ?_
  intro p e s m args below meth c s₁ Bd hml0 hP hK
  obtain ⟨rfl, hZ, hh⟩ := hP
  have hx := Bd.exec
  have hby := Bd.bytes
  have hml : c.maxLocals = 1 := hml0
  have hown : s.vm.findClass "java/lang/Number" = some m.cls := findClass_of_methodNamed Bd.named
  have hnm := (name_of_methodNamed Bd.named Bd.method).1
  have X0 : Stand p l e ({ frames := 1, cells := 0, slots := 0, locals := 12 } : Room) s m #[(.ref o)] below meth c s₁ [] 0 0 := Stand.of_body Bd
  have e0 : s₁.heap = h0 := by rw [← hh, Bd.state]; rfl
  have N0 := Fr.nil n0
  show own_Go p e below (fun o u L => FrameEnd s o u L ({ frames := 1, cells := 0, slots := 0, locals := 12 } : Room).cells ({ frames := 1, cells := 0, slots := 0, locals := 12 } : Room).slots) (Q_rm_num Z o h0 n0) (s₁.setTop (entryFrame m #[(.ref o)] 1))
  rw [own_ef_rm_num m o]
  show own_Go _ _ _ _ _ (State.setTop _ (mkF _ 0 #[.val (.ref o)] []))
  refine own_aloadN X0 hx 1 rfl (hb hby own_d18_0) rfl rfl ?_
  refine own_initO X0 hx hZ hown (own_hw hw 103 rfl) (own_hw hw 12 rfl) (own_hw hw 13 rfl) e0 (by rw [hml]; rfl) 4 rfl (hb hby own_d18_1) (by decide) 0 (Nat.le_of_eq rfl) (by decide) fun T101 X101 e101 => ?_
  refine own_ret X101 none (fun _ => rfl) Bd.notSynchronized (by decide) (by decide) ?_ (fun fs hr => X101.returnOut hx Bd.returns (hb hby own_d18_4) hr)
  show Q_rm_num Z o h0 n0 _ T101.heap _
  rw [e101]
  exact ⟨rfl, N0, rfl⟩
theorem own_pn1 : plainName "java/util/AbstractCollection" = true := by first | (simp [plainName, overriddenIn]; done) | decide +kernel
theorem own_ef_rm_abc (m : MethodId) (o : Addr) : entryFrame m #[(.ref o)] 1 = mkF m 0 #[.val (.ref o)] [] := by first | (simp [entryFrame, mkF, argsToLocals, Value.category]; done) | rfl
def Q_rm_abc (Z : State) (o : Addr) (h0 : Heap) (n0 : Nat) (v : Option Value) (h : Heap) (L : List Loc) : Prop := v = none ∧ Fr n0 L ∧ h = h0
theorem own_d14_0 : decode jdk_22_method_1_code 0 = .ok (.aload_n 0, 1) := by decide +kernel
theorem own_d14_1 : decode jdk_22_method_1_code 1 = .ok (.invokespecial 1, 3) := by decide +kernel
theorem own_d14_4 : decode jdk_22_method_1_code 4 = .ok (.return_, 1) := by decide +kernel
set_option maxRecDepth 65536 in
set_option maxHeartbeats 40000000 in
theorem rm_abc (l : Launch) (Z : State) (a0 : Array Value) (hw : ∀ d ∈ tables_1, d.before a0 Z = true) (ws : List Jvm.Cond) (o : Addr) (h0 : Heap) (n0 : Nat) (Z0 : n0 ≤ h0.size)  :
    MetFree l (⟨"java/util/AbstractCollection", "<init>", "()V"⟩ : MethodName) (head1 (Jvm.Cond.code (⟨"java/util/AbstractCollection", "<init>", "()V"⟩ : MethodName) jdk_22_method_1_code 1 none :: ws) ({ frames := 1, cells := 0, slots := 0, locals := 12 } : Room)) (fun aa U => aa = #[(.ref o)] ∧ Z.Warmed39 U.vm ∧ U.heap = h0) (fun _ _ _ _ _ => True) (fun _ U ou U' => ∃ v L, ou = .returned v ∧ Q_rm_abc Z o h0 n0 v U'.heap L ∧ FrameEnd U ou U' L ({ frames := 1, cells := 0, slots := 0, locals := 12 } : Room).cells ({ frames := 1, cells := 0, slots := 0, locals := 12 } : Room).slots) := by
  refine MetFree.of_bodySF (plainFor_of_name own_pn1) hisR ?_
  intro p e s m args below meth c s₁ Bd hml0 hP hK
  obtain ⟨rfl, hZ, hh⟩ := hP
  have hx := Bd.exec
  have hby := Bd.bytes
  have hml : c.maxLocals = 1 := hml0
  have hown : s.vm.findClass "java/util/AbstractCollection" = some m.cls := findClass_of_methodNamed Bd.named
  have hnm := (name_of_methodNamed Bd.named Bd.method).1
  have X0 : Stand p l e ({ frames := 1, cells := 0, slots := 0, locals := 12 } : Room) s m #[(.ref o)] below meth c s₁ [] 0 0 := Stand.of_body Bd
  have e0 : s₁.heap = h0 := by rw [← hh, Bd.state]; rfl
  have N0 := Fr.nil n0
  show own_Go p e below (fun o u L => FrameEnd s o u L ({ frames := 1, cells := 0, slots := 0, locals := 12 } : Room).cells ({ frames := 1, cells := 0, slots := 0, locals := 12 } : Room).slots) (Q_rm_abc Z o h0 n0) (s₁.setTop (entryFrame m #[(.ref o)] 1))
  rw [own_ef_rm_abc m o]
  show own_Go _ _ _ _ _ (State.setTop _ (mkF _ 0 #[.val (.ref o)] []))
  refine own_aloadN X0 hx 1 rfl (hb hby own_d14_0) rfl rfl ?_
  refine own_initO X0 hx hZ hown (own_hw hw 71 rfl) (own_hw hw 12 rfl) (own_hw hw 13 rfl) e0 (by rw [hml]; rfl) 4 rfl (hb hby own_d14_1) (by decide) 0 (Nat.le_of_eq rfl) (by decide) fun T102 X102 e102 => ?_
  refine own_ret X102 none (fun _ => rfl) Bd.notSynchronized (by decide) (by decide) ?_ (fun fs hr => X102.returnOut hx Bd.returns (hb hby own_d14_4) hr)
  show Q_rm_abc Z o h0 n0 _ T102.heap _
  rw [e102]
  exact ⟨rfl, N0, rfl⟩
theorem own_pn2 : plainName "java/lang/Record" = true := by first | (simp [plainName, overriddenIn]; done) | decide +kernel
theorem own_ef_rm_rec (m : MethodId) (o : Addr) : entryFrame m #[(.ref o)] 1 = mkF m 0 #[.val (.ref o)] [] := by first | (simp [entryFrame, mkF, argsToLocals, Value.category]; done) | rfl
def Q_rm_rec (Z : State) (o : Addr) (h0 : Heap) (n0 : Nat) (v : Option Value) (h : Heap) (L : List Loc) : Prop := v = none ∧ Fr n0 L ∧ h = h0
theorem own_d20_0 : decode jdk_30_method_1_code 0 = .ok (.aload_n 0, 1) := by decide +kernel
theorem own_d20_1 : decode jdk_30_method_1_code 1 = .ok (.invokespecial 1, 3) := by decide +kernel
theorem own_d20_4 : decode jdk_30_method_1_code 4 = .ok (.return_, 1) := by decide +kernel
set_option maxRecDepth 65536 in
set_option maxHeartbeats 40000000 in
theorem rm_rec (l : Launch) (Z : State) (a0 : Array Value) (hw : ∀ d ∈ tables_1, d.before a0 Z = true) (ws : List Jvm.Cond) (o : Addr) (h0 : Heap) (n0 : Nat) (Z0 : n0 ≤ h0.size)  :
    MetFree l (⟨"java/lang/Record", "<init>", "()V"⟩ : MethodName) (head1 (Jvm.Cond.code (⟨"java/lang/Record", "<init>", "()V"⟩ : MethodName) jdk_30_method_1_code 1 none :: ws) ({ frames := 1, cells := 0, slots := 0, locals := 12 } : Room)) (fun aa U => aa = #[(.ref o)] ∧ Z.Warmed39 U.vm ∧ U.heap = h0) (fun _ _ _ _ _ => True) (fun _ U ou U' => ∃ v L, ou = .returned v ∧ Q_rm_rec Z o h0 n0 v U'.heap L ∧ FrameEnd U ou U' L ({ frames := 1, cells := 0, slots := 0, locals := 12 } : Room).cells ({ frames := 1, cells := 0, slots := 0, locals := 12 } : Room).slots) := by
  refine MetFree.of_bodySF (plainFor_of_name own_pn2) hisR ?_
  intro p e s m args below meth c s₁ Bd hml0 hP hK
  obtain ⟨rfl, hZ, hh⟩ := hP
  have hx := Bd.exec
  have hby := Bd.bytes
  have hml : c.maxLocals = 1 := hml0
  have hown : s.vm.findClass "java/lang/Record" = some m.cls := findClass_of_methodNamed Bd.named
  have hnm := (name_of_methodNamed Bd.named Bd.method).1
  have X0 : Stand p l e ({ frames := 1, cells := 0, slots := 0, locals := 12 } : Room) s m #[(.ref o)] below meth c s₁ [] 0 0 := Stand.of_body Bd
  have e0 : s₁.heap = h0 := by rw [← hh, Bd.state]; rfl
  have N0 := Fr.nil n0
  show own_Go p e below (fun o u L => FrameEnd s o u L ({ frames := 1, cells := 0, slots := 0, locals := 12 } : Room).cells ({ frames := 1, cells := 0, slots := 0, locals := 12 } : Room).slots) (Q_rm_rec Z o h0 n0) (s₁.setTop (entryFrame m #[(.ref o)] 1))
  rw [own_ef_rm_rec m o]
  show own_Go _ _ _ _ _ (State.setTop _ (mkF _ 0 #[.val (.ref o)] []))
  refine own_aloadN X0 hx 1 rfl (hb hby own_d20_0) rfl rfl ?_
  refine own_initO X0 hx hZ hown (own_hw hw 114 rfl) (own_hw hw 12 rfl) (own_hw hw 13 rfl) e0 (by rw [hml]; rfl) 4 rfl (hb hby own_d20_1) (by decide) 0 (Nat.le_of_eq rfl) (by decide) fun T103 X103 e103 => ?_
  refine own_ret X103 none (fun _ => rfl) Bd.notSynchronized (by decide) (by decide) ?_ (fun fs hr => X103.returnOut hx Bd.returns (hb hby own_d20_4) hr)
  show Q_rm_rec Z o h0 n0 _ T103.heap _
  rw [e103]
  exact ⟨rfl, N0, rfl⟩
theorem own_pn3 : plainName "java/util/AbstractList" = true := by first | (simp [plainName, overriddenIn]; done) | decide +kernel
theorem own_ef_rm_abl (m : MethodId) (o : Addr) : entryFrame m #[(.ref o)] 1 = mkF m 0 #[.val (.ref o)] [] := by first | (simp [entryFrame, mkF, argsToLocals, Value.category]; done) | rfl
def Q_rm_abl (Z : State) (o : Addr) (h0 : Heap) (n0 : Nat) (v : Option Value) (h : Heap) (L : List Loc) : Prop := v = none ∧ Fr n0 L ∧ Keep h0 h [o] ∧ Exa Z h o "java/util/ArrayList" ∧ Fld Z h o "java/util/AbstractList" "modCount" "I" (.int (0 : Int32)) ∧ Fld Z h o "java/util/ArrayList" "elementData" "[Ljava/lang/Object;" .null ∧ Fld Z h o "java/util/ArrayList" "size" "I" (.int (0 : Int32))
theorem own_d13_0 : decode jdk_39_method_1_code 0 = .ok (.aload_n 0, 1) := by decide +kernel
theorem own_d13_1 : decode jdk_39_method_1_code 1 = .ok (.invokespecial 1, 3) := by decide +kernel
theorem own_pd0 : parseMethodDescriptor "()V" = some ⟨[], none⟩ := by decide +kernel
theorem own_d13_4 : decode jdk_39_method_1_code 4 = .ok (.aload_n 0, 1) := by decide +kernel
theorem own_d13_5 : decode jdk_39_method_1_code 5 = .ok (.iconst 0, 1) := by decide +kernel
theorem own_d13_6 : decode jdk_39_method_1_code 6 = .ok (.putfield 7, 3) := by decide +kernel
theorem own_d13_9 : decode jdk_39_method_1_code 9 = .ok (.return_, 1) := by decide +kernel
set_option maxRecDepth 65536 in
set_option maxHeartbeats 40000000 in
theorem rm_abl (l : Launch) (Z : State) (a0 : Array Value) (hw : ∀ d ∈ tables_1, d.before a0 Z = true) (ws : List Jvm.Cond) (o : Addr) (h0 : Heap) (n0 : Nat) (Z0 : n0 ≤ h0.size) (E1 : Exa Z h0 o "java/util/ArrayList") (F1 : Fld Z h0 o "java/util/AbstractList" "modCount" "I" (.int (0 : Int32))) (F2 : Fld Z h0 o "java/util/ArrayList" "elementData" "[Ljava/lang/Object;" .null) (F3 : Fld Z h0 o "java/util/ArrayList" "size" "I" (.int (0 : Int32))) (g_o : n0 ≤ o) :
    MetFree l (⟨"java/util/AbstractList", "<init>", "()V"⟩ : MethodName) (head1 (Jvm.Cond.code (⟨"java/util/AbstractList", "<init>", "()V"⟩ : MethodName) jdk_39_method_1_code 1 none :: ws) ({ frames := 2, cells := 0, slots := 0, locals := 30 } : Room)) (fun aa U => aa = #[(.ref o)] ∧ Z.Warmed39 U.vm ∧ U.heap = h0) (fun _ _ _ _ _ => True) (fun _ U ou U' => ∃ v L, ou = .returned v ∧ Q_rm_abl Z o h0 n0 v U'.heap L ∧ FrameEnd U ou U' L ({ frames := 2, cells := 0, slots := 0, locals := 30 } : Room).cells ({ frames := 2, cells := 0, slots := 0, locals := 30 } : Room).slots) := by
  refine MetFree.of_bodySF (plainFor_of_name own_pn3) hisR ?_
  intro p e s m args below meth c s₁ Bd hml0 hP hK
  obtain ⟨rfl, hZ, hh⟩ := hP
  have hx := Bd.exec
  have hby := Bd.bytes
  have hml : c.maxLocals = 1 := hml0
  have hown : s.vm.findClass "java/util/AbstractList" = some m.cls := findClass_of_methodNamed Bd.named
  have hnm := (name_of_methodNamed Bd.named Bd.method).1
  have X0 : Stand p l e ({ frames := 2, cells := 0, slots := 0, locals := 30 } : Room) s m #[(.ref o)] below meth c s₁ [] 0 0 := Stand.of_body Bd
  have e0 : s₁.heap = h0 := by rw [← hh, Bd.state]; rfl
  have N0 := Fr.nil n0
  have K0 := Keep.refl h0 [o]
  show own_Go p e below (fun o u L => FrameEnd s o u L ({ frames := 2, cells := 0, slots := 0, locals := 30 } : Room).cells ({ frames := 2, cells := 0, slots := 0, locals := 30 } : Room).slots) (Q_rm_abl Z o h0 n0) (s₁.setTop (entryFrame m #[(.ref o)] 1))
  rw [own_ef_rm_abl m o]
  show own_Go _ _ _ _ _ (State.setTop _ (mkF _ 0 #[.val (.ref o)] []))
  refine own_aloadN X0 hx 1 rfl (hb hby own_d13_0) rfl rfl ?_
  refine own_special X0 hx hZ (y := (⟨"java/util/AbstractCollection", "<init>", "()V"⟩ : MethodName)) hown rfl (own_hw hw 65 rfl) (own_hw hw 66 rfl) (a := o) (by decide) rfl (rm_abc l Z a0 hw [] o h0 n0 Z0 ) (own_hw hw 70 rfl) (own_hw hw 69 rfl) (by decide) e0 (by rw [hml]; rfl) [] 0 (by decide) (Nat.le_of_eq rfl) (by decide) (by decide) (lenOf own_pd0 rfl) rfl rfl 4 rfl (hb hby own_d13_1) fun v104 T104 Lc104 X104 hQ104 => ?_
  obtain ⟨rfl, Nq104, e104⟩ := hQ104
  have N105 := Fr.app N0 Nq104
  show own_Go _ _ _ _ _ (State.setTop _ (mkF _ 4 _ []))
  refine own_aloadN X104 hx 5 rfl (hb hby own_d13_4) rfl rfl ?_
  refine own_iconst X104 hx 6 rfl (hb hby own_d13_5) (0 : Int32) rfl ?_
  refine own_putF X104 hx hZ (host := "") hown (Or.inl (own_hw hw 72 rfl)) Via.refl e104 F1 E1 (Or.inl (own_hw hw 73 rfl)) (own_hw hw 54 rfl) (ty := .int) (by decide) rfl rfl 9 rfl (hb hby own_d13_6) fun T106 h106 X106 e106 W106 => ?_
  have f107 := E1.wr W106
  have f108 := F2.other W106 (Or.inr (slot_ne (Or.inl (own_hw hw 76 rfl)) (Or.inl (own_hw hw 73 rfl)) (by decide) (t := (.array (.object "java/lang/Object"))) (t' := .int) (by decide) (by decide)))
  have f109 := F3.other W106 (Or.inr (slot_ne (Or.inl (own_hw hw 131 rfl)) (Or.inl (own_hw hw 73 rfl)) (by decide) (t := .int) (t' := .int) (by decide) (by decide)))
  have z110 := Nat.le_trans Z0 (Keep.of_wr W106).1
  have K111 := K0.wr W106 (Or.inl (List.mem_of_getElem? (i := 0) rfl))
  have f112 := F1.same W106
  have N113 := Fr.snoc X106 N105 g_o
  refine own_ret X106 none (fun _ => rfl) Bd.notSynchronized (by decide) (by decide) ?_ (fun fs hr => X106.returnOut hx Bd.returns (hb hby own_d13_9) hr)
  show Q_rm_abl Z o h0 n0 _ T106.heap _
  rw [e106]
  exact ⟨rfl, N113, K111, f107, f112, f108, f109⟩
theorem own_pn4 : plainName "java/util/ArrayList" = true := by first | (simp [plainName, overriddenIn]; done) | decide +kernel
theorem own_ef_rm_al (m : MethodId) (o : Addr) : entryFrame m #[(.ref o)] 1 = mkF m 0 #[.val (.ref o)] [] := by first | (simp [entryFrame, mkF, argsToLocals, Value.category]; done) | rfl
def Q_rm_al (Z : State) (o : Addr) (aE : Addr) (h0 : Heap) (n0 : Nat) (v : Option Value) (h : Heap) (L : List Loc) : Prop := v = none ∧ Fr n0 L ∧ Keep h0 h [o] ∧ Exa Z h o "java/util/ArrayList" ∧ Fld Z h o "java/util/AbstractList" "modCount" "I" (.int (0 : Int32)) ∧ Fld Z h o "java/util/ArrayList" "elementData" "[Ljava/lang/Object;" (.ref aE) ∧ Fld Z h o "java/util/ArrayList" "size" "I" (.int (0 : Int32))
theorem own_d12_0 : decode jdk_38_method_2_code 0 = .ok (.aload_n 0, 1) := by decide +kernel
theorem own_d12_1 : decode jdk_38_method_2_code 1 = .ok (.invokespecial 1, 3) := by decide +kernel
theorem own_d12_4 : decode jdk_38_method_2_code 4 = .ok (.aload_n 0, 1) := by decide +kernel
theorem own_d12_5 : decode jdk_38_method_2_code 5 = .ok (.getstatic 39, 3) := by decide +kernel
theorem own_d12_8 : decode jdk_38_method_2_code 8 = .ok (.putfield 9, 3) := by decide +kernel
theorem own_d12_11 : decode jdk_38_method_2_code 11 = .ok (.return_, 1) := by decide +kernel
set_option maxRecDepth 65536 in
set_option maxHeartbeats 40000000 in
theorem rm_al (l : Launch) (Z : State) (a0 : Array Value) (hw : ∀ d ∈ tables_1, d.before a0 Z = true) (ws : List Jvm.Cond) (o : Addr) (aE : Addr) (h0 : Heap) (n0 : Nat) (Z0 : n0 ≤ h0.size) (E1 : Exa Z h0 o "java/util/ArrayList") (F1 : Fld Z h0 o "java/util/AbstractList" "modCount" "I" (.int (0 : Int32))) (F2 : Fld Z h0 o "java/util/ArrayList" "elementData" "[Ljava/lang/Object;" .null) (F3 : Fld Z h0 o "java/util/ArrayList" "size" "I" (.int (0 : Int32))) (g_o : n0 ≤ o) (S1 : Sta Z h0 "java/util/ArrayList" "DEFAULTCAPACITY_EMPTY_ELEMENTDATA" "[Ljava/lang/Object;" (.ref aE)) :
    MetFree l (⟨"java/util/ArrayList", "<init>", "()V"⟩ : MethodName) (head1 (Jvm.Cond.code (⟨"java/util/ArrayList", "<init>", "()V"⟩ : MethodName) jdk_38_method_2_code 1 none :: ws) ({ frames := 3, cells := 0, slots := 0, locals := 45 } : Room)) (fun aa U => aa = #[(.ref o)] ∧ Z.Warmed39 U.vm ∧ U.heap = h0) (fun _ _ _ _ _ => True) (fun _ U ou U' => ∃ v L, ou = .returned v ∧ Q_rm_al Z o aE h0 n0 v U'.heap L ∧ FrameEnd U ou U' L ({ frames := 3, cells := 0, slots := 0, locals := 45 } : Room).cells ({ frames := 3, cells := 0, slots := 0, locals := 45 } : Room).slots) := by
  refine MetFree.of_bodySF (plainFor_of_name own_pn4) hisR ?_
  intro p e s m args below meth c s₁ Bd hml0 hP hK
  obtain ⟨rfl, hZ, hh⟩ := hP
  have hx := Bd.exec
  have hby := Bd.bytes
  have hml : c.maxLocals = 1 := hml0
  have hown : s.vm.findClass "java/util/ArrayList" = some m.cls := findClass_of_methodNamed Bd.named
  have hnm := (name_of_methodNamed Bd.named Bd.method).1
  have X0 : Stand p l e ({ frames := 3, cells := 0, slots := 0, locals := 45 } : Room) s m #[(.ref o)] below meth c s₁ [] 0 0 := Stand.of_body Bd
  have e0 : s₁.heap = h0 := by rw [← hh, Bd.state]; rfl
  have N0 := Fr.nil n0
  have K0 := Keep.refl h0 [o]
  show own_Go p e below (fun o u L => FrameEnd s o u L ({ frames := 3, cells := 0, slots := 0, locals := 45 } : Room).cells ({ frames := 3, cells := 0, slots := 0, locals := 45 } : Room).slots) (Q_rm_al Z o aE h0 n0) (s₁.setTop (entryFrame m #[(.ref o)] 1))
  rw [own_ef_rm_al m o]
  show own_Go _ _ _ _ _ (State.setTop _ (mkF _ 0 #[.val (.ref o)] []))
  refine own_aloadN X0 hx 1 rfl (hb hby own_d12_0) rfl rfl ?_
  refine own_special X0 hx hZ (y := (⟨"java/util/AbstractList", "<init>", "()V"⟩ : MethodName)) hown rfl (own_hw hw 59 rfl) (own_hw hw 60 rfl) (a := o) (by decide) rfl (rm_abl l Z a0 hw [] o h0 n0 Z0 E1 F1 F2 F3 g_o) (own_hw hw 64 rfl) (own_hw hw 63 rfl) (by decide) e0 (by rw [hml]; rfl) [] 0 (by decide) (Nat.le_of_eq rfl) (by decide) (by decide) (lenOf own_pd0 rfl) rfl rfl 4 rfl (hb hby own_d12_1) fun v114 T114 Lc114 X114 hQ114 => ?_
  obtain ⟨rfl, Nq114, Kq114, f115, f116, f117, f118⟩ := hQ114
  have N119 := Fr.app N0 Nq114
  have f120 := E1.keep Kq114
  have f124 := own_staKeep S1 Kq114 (nsS E1.nostat ns0)
  have z125 := Nat.le_trans Z0 Kq114.1
  have K126 := K0.trans Kq114 (allS (Or.inl (List.mem_of_getElem? (i := 0) rfl)) all0)
  show own_Go _ _ _ _ _ (State.setTop _ (mkF _ 4 _ []))
  refine own_aloadN X114 hx 5 rfl (hb hby own_d12_4) rfl rfl ?_
  refine own_getS X114 hx hZ (host := "") hown (Or.inl (own_hw hw 74 rfl)) Via.refl rfl f124 8 rfl (hb hby own_d12_5) fun T127 X127 e127 => ?_
  refine own_putF X127 hx hZ (host := "") hown (Or.inl (own_hw hw 75 rfl)) Via.refl e127 f117 f115 (Or.inl (own_hw hw 76 rfl)) (own_hw hw 54 rfl) (ty := (.array (.object "java/lang/Object"))) (by decide) rfl rfl 11 rfl (hb hby own_d12_8) fun T128 h128 X128 e128 W128 => ?_
  have f129 := f115.wr W128
  have f130 := f124.wr W128
  have f131 := f116.other W128 (Or.inr (slot_ne (Or.inl (own_hw hw 73 rfl)) (Or.inl (own_hw hw 76 rfl)) (by decide) (t := .int) (t' := (.array (.object "java/lang/Object"))) (by decide) (by decide)))
  have f132 := f118.other W128 (Or.inr (slot_ne (Or.inl (own_hw hw 131 rfl)) (Or.inl (own_hw hw 76 rfl)) (by decide) (t := .int) (t' := (.array (.object "java/lang/Object"))) (by decide) (by decide)))
  have z133 := Nat.le_trans z125 (Keep.of_wr W128).1
  have K134 := K126.wr W128 (Or.inl (List.mem_of_getElem? (i := 0) rfl))
  have f135 := f117.same W128
  have N136 := Fr.snoc X128 N119 g_o
  refine own_ret X128 none (fun _ => rfl) Bd.notSynchronized (by decide) (by decide) ?_ (fun fs hr => X128.returnOut hx Bd.returns (hb hby own_d12_11) hr)
  show Q_rm_al Z o aE h0 n0 _ T128.heap _
  rw [e128]
  exact ⟨rfl, N136, K134, f129, f131, f135, f132⟩
theorem own_pn5 : plainName "com/example/measured_reasoner/measuredreasoner/Summary" = true := by first | (simp [plainName, overriddenIn]; done) | decide +kernel
theorem own_ef_rm_su (m : MethodId) (o : Addr) : entryFrame m #[(.ref o)] 1 = mkF m 0 #[.val (.ref o)] [] := by first | (simp [entryFrame, mkF, argsToLocals, Value.category]; done) | rfl
def Q_rm_su (Z : State) (o : Addr) (aE : Addr) (h0 : Heap) (n0 : Nat) (v : Option Value) (h : Heap) (L : List Loc) : Prop := ∃ (li : Addr), v = none ∧ Fr n0 L ∧ Keep h0 h [o] ∧ h0.size ≤ li ∧ Exa Z h o "com/example/measured_reasoner/measuredreasoner/Summary" ∧ Fld Z h o "com/example/measured_reasoner/measuredreasoner/Summary" "fields" "Ljava/util/List;" (.ref li) ∧ Exa Z h li "java/util/ArrayList" ∧ Fld Z h li "java/util/AbstractList" "modCount" "I" (.int (0 : Int32)) ∧ Fld Z h li "java/util/ArrayList" "elementData" "[Ljava/lang/Object;" (.ref aE) ∧ Fld Z h li "java/util/ArrayList" "size" "I" (.int (0 : Int32))
theorem own_d11_0 : decode prog_19_method_1_code 0 = .ok (.aload_n 0, 1) := by decide +kernel
theorem own_d11_1 : decode prog_19_method_1_code 1 = .ok (.invokespecial 1, 3) := by decide +kernel
theorem own_d11_4 : decode prog_19_method_1_code 4 = .ok (.aload_n 0, 1) := by decide +kernel
theorem own_d11_5 : decode prog_19_method_1_code 5 = .ok (.new 7, 3) := by decide +kernel
theorem own_d11_8 : decode prog_19_method_1_code 8 = .ok (.dup, 1) := by decide +kernel
theorem own_d11_9 : decode prog_19_method_1_code 9 = .ok (.invokespecial 9, 3) := by decide +kernel
theorem own_d11_12 : decode prog_19_method_1_code 12 = .ok (.putfield 10, 3) := by decide +kernel
theorem own_d11_15 : decode prog_19_method_1_code 15 = .ok (.return_, 1) := by decide +kernel
set_option maxRecDepth 65536 in
set_option maxHeartbeats 40000000 in
theorem rm_su (l : Launch) (Z : State) (a0 : Array Value) (hw : ∀ d ∈ tables_1, d.before a0 Z = true) (ws : List Jvm.Cond) (o : Addr) (aE : Addr) (h0 : Heap) (n0 : Nat) (Z0 : n0 ≤ h0.size) (E1 : Exa Z h0 o "com/example/measured_reasoner/measuredreasoner/Summary") (F1 : Fld Z h0 o "com/example/measured_reasoner/measuredreasoner/Summary" "fields" "Ljava/util/List;" .null) (g_o : n0 ≤ o) (S1 : Sta Z h0 "java/util/ArrayList" "DEFAULTCAPACITY_EMPTY_ELEMENTDATA" "[Ljava/lang/Object;" (.ref aE)) :
    MetFree l (⟨"com/example/measured_reasoner/measuredreasoner/Summary", "<init>", "()V"⟩ : MethodName) (head1 (Jvm.Cond.code (⟨"com/example/measured_reasoner/measuredreasoner/Summary", "<init>", "()V"⟩ : MethodName) prog_19_method_1_code 1 none :: ws) ({ frames := 4, cells := 1, slots := 3, locals := 60 } : Room)) (fun aa U => aa = #[(.ref o)] ∧ Z.Warmed39 U.vm ∧ U.heap = h0) (fun _ _ _ _ _ => True) (fun _ U ou U' => ∃ v L, ou = .returned v ∧ Q_rm_su Z o aE h0 n0 v U'.heap L ∧ FrameEnd U ou U' L ({ frames := 4, cells := 1, slots := 3, locals := 60 } : Room).cells ({ frames := 4, cells := 1, slots := 3, locals := 60 } : Room).slots) := by
  refine MetFree.of_bodySF (plainFor_of_name own_pn5) hisR ?_
  intro p e s m args below meth c s₁ Bd hml0 hP hK
  obtain ⟨rfl, hZ, hh⟩ := hP
  have hx := Bd.exec
  have hby := Bd.bytes
  have hml : c.maxLocals = 1 := hml0
  have hown : s.vm.findClass "com/example/measured_reasoner/measuredreasoner/Summary" = some m.cls := findClass_of_methodNamed Bd.named
  have hnm := (name_of_methodNamed Bd.named Bd.method).1
  have X0 : Stand p l e ({ frames := 4, cells := 1, slots := 3, locals := 60 } : Room) s m #[(.ref o)] below meth c s₁ [] 0 0 := Stand.of_body Bd
  have e0 : s₁.heap = h0 := by rw [← hh, Bd.state]; rfl
  have N0 := Fr.nil n0
  have K0 := Keep.refl h0 [o]
  show own_Go p e below (fun o u L => FrameEnd s o u L ({ frames := 4, cells := 1, slots := 3, locals := 60 } : Room).cells ({ frames := 4, cells := 1, slots := 3, locals := 60 } : Room).slots) (Q_rm_su Z o aE h0 n0) (s₁.setTop (entryFrame m #[(.ref o)] 1))
  rw [own_ef_rm_su m o]
  show own_Go _ _ _ _ _ (State.setTop _ (mkF _ 0 #[.val (.ref o)] []))
  refine own_aloadN X0 hx 1 rfl (hb hby own_d11_0) rfl rfl ?_
  refine own_initO X0 hx hZ hown (own_hw hw 52 rfl) (own_hw hw 12 rfl) (own_hw hw 13 rfl) e0 (by rw [hml]; rfl) 4 rfl (hb hby own_d11_1) (by decide) 0 (Nat.le_of_eq rfl) (by decide) fun T137 X137 e137 => ?_
  refine own_aloadN X137 hx 5 rfl (hb hby own_d11_4) rfl rfl ?_
  refine own_new X137 hx hZ hown (own_hw hw 53 rfl) (own_hw hw 54 rfl) (own_hw hw 55 rfl) e137 8 rfl (hb hby own_d11_5) (by decide) (by decide) fun T138 h138 b138 g138 X138 e138 E138 A138 D138 => ?_
  have ne139 : o ≠ b138 := Nat.ne_of_lt (Nat.lt_of_lt_of_le E1.lt (Nat.le_of_eq g138.symm))
  have ge140 : n0 ≤ b138 := Nat.le_trans Z0 (Nat.le_of_eq g138.symm)
  have sz141 : h0.size ≤ b138 := Nat.le_trans K0.1 (Nat.le_of_eq g138.symm)
  have f142 := E1.ext E138
  have f143 := F1.ext E138
  have f144 := S1.ext E138
  have z145 := Nat.le_trans Z0 E138.1
  have K146 := K0.ext E138
  have f147 : Fld Z h138 b138 "java/util/AbstractList" "modCount" "I" (.int (0 : Int32)) := D138 (Or.inl (own_hw hw 73 rfl)) (ty := .int) (by decide)
  have f148 : Fld Z h138 b138 "java/util/ArrayList" "elementData" "[Ljava/lang/Object;" .null := D138 (Or.inl (own_hw hw 76 rfl)) (ty := (.array (.object "java/lang/Object"))) (by decide)
  have f149 : Fld Z h138 b138 "java/util/ArrayList" "size" "I" (.int (0 : Int32)) := D138 (Or.inl (own_hw hw 131 rfl)) (ty := .int) (by decide)
  refine own_dup X138 hx 9 rfl (hb hby own_d11_8) rfl ?_
  refine own_special X138 hx hZ (y := (⟨"java/util/ArrayList", "<init>", "()V"⟩ : MethodName)) hown rfl (own_hw hw 56 rfl) (own_hw hw 57 rfl) (a := b138) (by decide) rfl (rm_al l Z a0 hw [] b138 aE h138 n0 z145 A138 f147 f148 f149 ge140 f144) (own_hw hw 58 rfl) (own_hw hw 55 rfl) (by decide) e138 (by rw [hml]; rfl) [] 2 (by decide) (Nat.le_of_eq rfl) (by decide) (by decide) (lenOf own_pd0 rfl) rfl rfl 12 rfl (hb hby own_d11_9) fun v150 T150 Lc150 X150 hQ150 => ?_
  obtain ⟨rfl, Nq150, Kq150, f151, f152, f153, f154⟩ := hQ150
  have N155 := Fr.app N0 Nq150
  have f156 := f142.keep Kq150
  have f157 := f143.keep Kq150 (ninS ne139 nin0)
  have f158 := own_staKeep f144 Kq150 (nsS A138.nostat ns0)
  have f159 := A138.keep Kq150
  have z163 := Nat.le_trans z145 Kq150.1
  have K164 := K146.trans Kq150 (allS (Or.inr sz141) all0)
  show own_Go _ _ _ _ _ (State.setTop _ (mkF _ 12 _ [(.ref b138), (.ref o)]))
  refine own_putF X150 hx hZ (host := "") hown (Or.inl (own_hw hw 77 rfl)) Via.refl rfl f157 f156 (Or.inr ⟨(own_hw hw 78 rfl), rfl, hnm⟩) (own_hw hw 47 rfl) (ty := (.object "java/util/List")) (by decide) rfl rfl 15 rfl (hb hby own_d11_12) fun T165 h165 X165 e165 W165 => ?_
  have f166 := f156.wr W165
  have f167 := f158.wr W165
  have f168 := f151.wr W165
  have f169 := f152.other W165 (Or.inl (Ne.symm ne139))
  have f170 := f153.other W165 (Or.inl (Ne.symm ne139))
  have f171 := f154.other W165 (Or.inl (Ne.symm ne139))
  have z172 := Nat.le_trans z163 (Keep.of_wr W165).1
  have K173 := K164.wr W165 (Or.inl (List.mem_of_getElem? (i := 0) rfl))
  have f174 := f157.same W165
  have N175 := Fr.snoc X165 N155 g_o
  refine own_ret X165 none (fun _ => rfl) Bd.notSynchronized (by decide) (by decide) ?_ (fun fs hr => X165.returnOut hx Bd.returns (hb hby own_d11_15) hr)
  show Q_rm_su Z o aE h0 n0 _ T165.heap _
  rw [e165]
  exact ⟨b138, rfl, N175, K173, sz141, f166, f174, f168, f169, f170, f171⟩
theorem own_ef_rm_max (m : MethodId)  : entryFrame m #[(.int (10 : Int32)), (.int (1 : Int32))] 2 = mkF m 0 #[.val (.int (10 : Int32)), .val (.int (1 : Int32))] [] := by first | (simp [entryFrame, mkF, argsToLocals, Value.category]; done) | rfl
def Q_rm_max (Z : State)  (h0 : Heap) (n0 : Nat) (v : Option Value) (h : Heap) (L : List Loc) : Prop := v = some (.int (10 : Int32)) ∧ Fr n0 L ∧ h = h0
theorem own_d25_0 : decode jdk_29_method_65_code 0 = .ok (.iload_n 0, 1) := by decide +kernel
theorem own_d25_1 : decode jdk_29_method_65_code 1 = .ok (.iload_n 1, 1) := by decide +kernel
theorem own_d25_2 : decode jdk_29_method_65_code 2 = .ok (.if_icmp .lt 7, 3) := by decide +kernel
theorem own_d25_5 : decode jdk_29_method_65_code 5 = .ok (.iload_n 0, 1) := by decide +kernel
theorem own_d25_6 : decode jdk_29_method_65_code 6 = .ok (.goto 4, 3) := by decide +kernel
theorem own_d25_10 : decode jdk_29_method_65_code 10 = .ok (.ireturn, 1) := by decide +kernel
set_option maxRecDepth 65536 in
set_option maxHeartbeats 40000000 in
theorem rm_max (l : Launch) (Z : State) (a0 : Array Value) (hw : ∀ d ∈ tables_1, d.before a0 Z = true) (ws : List Jvm.Cond)  (h0 : Heap) (n0 : Nat) (Z0 : n0 ≤ h0.size)  :
    MetFree l (⟨"java/lang/Math", "max", "(II)I"⟩ : MethodName) (head1 (Jvm.Cond.code (⟨"java/lang/Math", "max", "(II)I"⟩ : MethodName) jdk_29_method_65_code 2 (some .int) :: ws) ({ frames := 0, cells := 0, slots := 0, locals := 0 } : Room)) (fun aa U => aa = #[(.int (10 : Int32)), (.int (1 : Int32))] ∧ Z.Warmed39 U.vm ∧ U.heap = h0) (fun _ _ _ _ _ => True) (fun _ U ou U' => ∃ v L, ou = .returned v ∧ Q_rm_max Z  h0 n0 v U'.heap L ∧ FrameEnd U ou U' L ({ frames := 0, cells := 0, slots := 0, locals := 0 } : Room).cells ({ frames := 0, cells := 0, slots := 0, locals := 0 } : Room).slots) := by
  refine MetFree.of_bodySF (Jvm.Free.JP.mathPlain rfl (by decide +kernel)) hisR ?_
  intro p e s m args below meth c s₁ Bd hml0 hP hK
  obtain ⟨rfl, hZ, hh⟩ := hP
  have hx := Bd.exec
  have hby := Bd.bytes
  have hml : c.maxLocals = 2 := hml0
  have hown : s.vm.findClass "java/lang/Math" = some m.cls := findClass_of_methodNamed Bd.named
  have hnm := (name_of_methodNamed Bd.named Bd.method).1
  have X0 : Stand p l e ({ frames := 0, cells := 0, slots := 0, locals := 0 } : Room) s m #[(.int (10 : Int32)), (.int (1 : Int32))] below meth c s₁ [] 0 0 := Stand.of_body Bd
  have e0 : s₁.heap = h0 := by rw [← hh, Bd.state]; rfl
  have N0 := Fr.nil n0
  show own_Go p e below (fun o u L => FrameEnd s o u L ({ frames := 0, cells := 0, slots := 0, locals := 0 } : Room).cells ({ frames := 0, cells := 0, slots := 0, locals := 0 } : Room).slots) (Q_rm_max Z  h0 n0) (s₁.setTop (entryFrame m #[(.int (10 : Int32)), (.int (1 : Int32))] 2))
  rw [own_ef_rm_max m ]
  show own_Go _ _ _ _ _ (State.setTop _ (mkF _ 0 #[.val (.int (10 : Int32)), .val (.int (1 : Int32))] []))
  refine own_iloadN X0 hx 1 rfl (hb hby own_d25_0) rfl ?_
  refine own_iloadN X0 hx 2 rfl (hb hby own_d25_1) rfl ?_
  refine own_icmpNo X0 hx 5 rfl (hb hby own_d25_2) (by decide) ?_
  refine own_iloadN X0 hx 6 rfl (hb hby own_d25_5) rfl ?_
  refine own_goto X0 hx 10 (hb hby own_d25_6) (by decide) rfl ?_
  refine own_ret X0 (some (.int (10 : Int32))) (fun h => by rw [Bd.returns] at h; cases h) Bd.notSynchronized (by decide) (by decide) ?_ (fun fs hr => own_retI X0 hx Bd.returns (hb hby own_d25_10) hr)
  show Q_rm_max Z  h0 n0 _ s₁.heap _
  rw [e0]
  exact ⟨rfl, N0, rfl⟩
theorem own_ef_rm_grow1 (m : MethodId) (o : Addr) : entryFrame m #[(.ref o), (.int (1 : Int32))] 4 = mkF m 0 #[.val (.ref o), .val (.int (1 : Int32)), .unset, .unset] [] := by first | (simp [entryFrame, mkF, argsToLocals, Value.category]; done) | rfl
def Q_rm_grow1 (Z : State) (o : Addr) (aE : Addr) (kE : ClassId) (mc : Int32) (h0 : Heap) (n0 : Nat) (v : Option Value) (h : Heap) (L : List Loc) : Prop := ∃ (b : Addr) (kb : ClassId), v = some (.ref b) ∧ Fr n0 L ∧ Keep h0 h [o] ∧ h0.size ≤ b ∧ Exa Z h o "java/util/ArrayList" ∧ Fld Z h o "java/util/AbstractList" "modCount" "I" (.int mc) ∧ Fld Z h o "java/util/ArrayList" "elementData" "[Ljava/lang/Object;" (.ref b) ∧ Fld Z h o "java/util/ArrayList" "size" "I" (.int (0 : Int32)) ∧ Arv Z h b kb (.object "java/lang/Object") (10 : Int32) [.null, .null, .null, .null, .null, .null, .null, .null, .null, .null] .null ∧ Ovr Z kb "java/lang/Object"
theorem own_d24_0 : decode jdk_38_method_6_code 0 = .ok (.aload_n 0, 1) := by decide +kernel
theorem own_d24_1 : decode jdk_38_method_6_code 1 = .ok (.getfield 9, 3) := by decide +kernel
theorem own_d24_4 : decode jdk_38_method_6_code 4 = .ok (.arraylength, 1) := by decide +kernel
theorem own_d24_5 : decode jdk_38_method_6_code 5 = .ok (.istore_n 2, 1) := by decide +kernel
theorem own_d24_6 : decode jdk_38_method_6_code 6 = .ok (.iload_n 2, 1) := by decide +kernel
theorem own_d24_7 : decode jdk_38_method_6_code 7 = .ok (.ifCond .gt 13, 3) := by decide +kernel
theorem own_d24_10 : decode jdk_38_method_6_code 10 = .ok (.aload_n 0, 1) := by decide +kernel
theorem own_d24_11 : decode jdk_38_method_6_code 11 = .ok (.getfield 9, 3) := by decide +kernel
theorem own_d24_14 : decode jdk_38_method_6_code 14 = .ok (.getstatic 39, 3) := by decide +kernel
theorem own_d24_17 : decode jdk_38_method_6_code 17 = .ok (.if_acmp .eq 28, 3) := by decide +kernel
theorem own_d24_45 : decode jdk_38_method_6_code 45 = .ok (.aload_n 0, 1) := by decide +kernel
theorem own_d24_46 : decode jdk_38_method_6_code 46 = .ok (.bipush 10, 2) := by decide +kernel
theorem own_d24_48 : decode jdk_38_method_6_code 48 = .ok (.iload_n 1, 1) := by decide +kernel
theorem own_d24_49 : decode jdk_38_method_6_code 49 = .ok (.invokestatic 79, 3) := by decide +kernel
theorem own_pd1 : parseMethodDescriptor "(II)I" = some ⟨[.int, .int], some .int⟩ := by decide +kernel
theorem own_d24_52 : decode jdk_38_method_6_code 52 = .ok (.anewarray 7, 3) := by decide +kernel
theorem own_d24_55 : decode jdk_38_method_6_code 55 = .ok (.dup_x1, 1) := by decide +kernel
theorem own_d24_56 : decode jdk_38_method_6_code 56 = .ok (.putfield 9, 3) := by decide +kernel
theorem own_d24_59 : decode jdk_38_method_6_code 59 = .ok (.areturn, 1) := by decide +kernel
set_option maxRecDepth 65536 in
set_option maxHeartbeats 40000000 in
theorem rm_grow1 (l : Launch) (Z : State) (a0 : Array Value) (hw : ∀ d ∈ tables_1, d.before a0 Z = true) (ws : List Jvm.Cond) (o : Addr) (aE : Addr) (kE : ClassId) (mc : Int32) (h0 : Heap) (n0 : Nat) (Z0 : n0 ≤ h0.size) (E1 : Exa Z h0 o "java/util/ArrayList") (F1 : Fld Z h0 o "java/util/AbstractList" "modCount" "I" (.int mc)) (F2 : Fld Z h0 o "java/util/ArrayList" "elementData" "[Ljava/lang/Object;" (.ref aE)) (F3 : Fld Z h0 o "java/util/ArrayList" "size" "I" (.int (0 : Int32))) (A1 : Arv Z h0 aE kE (.object "java/lang/Object") (0 : Int32) [] .null) (S1 : Sta Z h0 "java/util/ArrayList" "DEFAULTCAPACITY_EMPTY_ELEMENTDATA" "[Ljava/lang/Object;" (.ref aE)) (g_o : n0 ≤ o) (ne_oE : o ≠ aE) :
    MetFree l (⟨"java/util/ArrayList", "grow", "(I)[Ljava/lang/Object;"⟩ : MethodName) (head1 (Jvm.Cond.code (⟨"java/util/ArrayList", "grow", "(I)[Ljava/lang/Object;"⟩ : MethodName) jdk_38_method_6_code 4 (some (.array (.object "java/lang/Object"))) :: ws) ({ frames := 1, cells := 1, slots := 10, locals := 16 } : Room)) (fun aa U => aa = #[(.ref o), (.int (1 : Int32))] ∧ Z.Warmed39 U.vm ∧ U.heap = h0) (fun _ _ _ _ _ => True) (fun _ U ou U' => ∃ v L, ou = .returned v ∧ Q_rm_grow1 Z o aE kE mc h0 n0 v U'.heap L ∧ FrameEnd U ou U' L ({ frames := 1, cells := 1, slots := 10, locals := 16 } : Room).cells ({ frames := 1, cells := 1, slots := 10, locals := 16 } : Room).slots) := by
  refine MetFree.of_bodySF (plainFor_of_name own_pn4) hisR ?_
  intro p e s m args below meth c s₁ Bd hml0 hP hK
  obtain ⟨rfl, hZ, hh⟩ := hP
  have hx := Bd.exec
  have hby := Bd.bytes
  have hml : c.maxLocals = 4 := hml0
  have hown : s.vm.findClass "java/util/ArrayList" = some m.cls := findClass_of_methodNamed Bd.named
  have hnm := (name_of_methodNamed Bd.named Bd.method).1
  have X0 : Stand p l e ({ frames := 1, cells := 1, slots := 10, locals := 16 } : Room) s m #[(.ref o), (.int (1 : Int32))] below meth c s₁ [] 0 0 := Stand.of_body Bd
  have e0 : s₁.heap = h0 := by rw [← hh, Bd.state]; rfl
  have N0 := Fr.nil n0
  have K0 := Keep.refl h0 [o]
  show own_Go p e below (fun o u L => FrameEnd s o u L ({ frames := 1, cells := 1, slots := 10, locals := 16 } : Room).cells ({ frames := 1, cells := 1, slots := 10, locals := 16 } : Room).slots) (Q_rm_grow1 Z o aE kE mc h0 n0) (s₁.setTop (entryFrame m #[(.ref o), (.int (1 : Int32))] 4))
  rw [own_ef_rm_grow1 m o]
  show own_Go _ _ _ _ _ (State.setTop _ (mkF _ 0 #[.val (.ref o), .val (.int (1 : Int32)), .unset, .unset] []))
  refine own_aloadN X0 hx 1 rfl (hb hby own_d24_0) rfl rfl ?_
  refine own_getF X0 hx hZ (host := "") hown (Or.inl (own_hw hw 75 rfl)) Via.refl e0 F2 4 rfl (hb hby own_d24_1) fun T176 X176 e176 => ?_
  refine own_len X176 hx hZ e176 A1 5 rfl (hb hby own_d24_4) ?_
  refine own_istoreN X176 hx 6 rfl (hb hby own_d24_5) #[.val (.ref o), .val (.int (1 : Int32)), .val (.int (0 : Int32)), .unset] rfl ?_
  refine own_iloadN X176 hx 7 rfl (hb hby own_d24_6) rfl ?_
  refine own_ifNo X176 hx 10 rfl (hb hby own_d24_7) (by decide) ?_
  refine own_aloadN X176 hx 11 rfl (hb hby own_d24_10) rfl rfl ?_
  refine own_getF X176 hx hZ (host := "") hown (Or.inl (own_hw hw 75 rfl)) Via.refl e176 F2 14 rfl (hb hby own_d24_11) fun T177 X177 e177 => ?_
  refine own_getS X177 hx hZ (host := "") hown (Or.inl (own_hw hw 74 rfl)) Via.refl e177 S1 17 rfl (hb hby own_d24_14) fun T178 X178 e178 => ?_
  refine own_acmp X178 hx true 45 (hb hby own_d24_17) rfl rfl (decide_eq_true rfl) (by decide) (by decide) ?_
  refine own_aloadN X178 hx 46 rfl (hb hby own_d24_45) rfl rfl ?_
  refine own_bipush X178 hx 48 rfl (hb hby own_d24_46) (10 : Int32) rfl ?_
  refine own_iloadN X178 hx 49 rfl (hb hby own_d24_48) rfl ?_
  refine own_callS X178 hx hZ (y := (⟨"java/lang/Math", "max", "(II)I"⟩ : MethodName)) hown (own_hw hw 147 rfl) (own_hw hw 148 rfl) (by decide) (rm_max l Z a0 hw []  h0 n0 Z0 ) (own_hw hw 150 rfl) (own_hw hw 149 rfl) (by decide) e178 (by rw [hml]; rfl) [(.int (10 : Int32)), (.int (1 : Int32))] 1 (by decide) (Nat.le_of_eq rfl) (by decide) (by decide) (lenOf own_pd1 rfl) rfl rfl 52 rfl (hb hby own_d24_49) fun v179 T179 Lc179 X179 hQ179 => ?_
  obtain ⟨rfl, Nq179, e179⟩ := hQ179
  have N180 := Fr.app N0 Nq179
  show own_Go _ _ _ _ _ (State.setTop _ (mkF _ 52 _ [(.int (10 : Int32)), (.ref o)]))
  refine own_newR X179 hx hZ hown (own_hw hw 151 rfl) (own_hw hw 152 rfl) e179 55 rfl (hb hby own_d24_52) (by decide) 10 (by decide) (by decide) (by decide) (by decide) fun T181 h181 k181 b181 g181 X181 e181 E181 A181 O181 => ?_
  have ne182 : o ≠ b181 := Nat.ne_of_lt (Nat.lt_of_lt_of_le E1.lt (Nat.le_of_eq g181.symm))
  have ne183 : aE ≠ b181 := Nat.ne_of_lt (Nat.lt_of_lt_of_le A1.lt (Nat.le_of_eq g181.symm))
  have ge184 : n0 ≤ b181 := Nat.le_trans Z0 (Nat.le_of_eq g181.symm)
  have sz185 : h0.size ≤ b181 := Nat.le_trans K0.1 (Nat.le_of_eq g181.symm)
  have f186 := E1.ext E181
  have f187 := F1.ext E181
  have f188 := F2.ext E181
  have f189 := F3.ext E181
  have f190 := A1.ext E181
  have f191 := S1.ext E181
  have z192 := Nat.le_trans Z0 E181.1
  have K193 := K0.ext E181
  have f194 : Arv Z h181 b181 k181 (.object "java/lang/Object") (10 : Int32) [.null, .null, .null, .null, .null, .null, .null, .null, .null, .null] .null := (Arv.new A181 (by decide)).pad (pad_rep [] .null 10)
  refine own_dupX1 X181 hx 56 rfl (hb hby own_d24_55) rfl rfl ?_
  refine own_putF X181 hx hZ (host := "") hown (Or.inl (own_hw hw 75 rfl)) Via.refl e181 f188 f186 (Or.inl (own_hw hw 76 rfl)) (own_hw hw 54 rfl) (ty := (.array (.object "java/lang/Object"))) (by decide) rfl rfl 59 rfl (hb hby own_d24_56) fun T195 h195 X195 e195 W195 => ?_
  have f196 := f186.wr W195
  have f197 := f187.other W195 (Or.inr (slot_ne (Or.inl (own_hw hw 73 rfl)) (Or.inl (own_hw hw 76 rfl)) (by decide) (t := .int) (t' := (.array (.object "java/lang/Object"))) (by decide) (by decide)))
  have f198 := f189.other W195 (Or.inr (slot_ne (Or.inl (own_hw hw 131 rfl)) (Or.inl (own_hw hw 76 rfl)) (by decide) (t := .int) (t' := (.array (.object "java/lang/Object"))) (by decide) (by decide)))
  have f199 := f190.other W195 (Ne.symm ne_oE)
  have f200 := f191.wr W195
  have f201 := f194.other W195 (Ne.symm ne182)
  have z202 := Nat.le_trans z192 (Keep.of_wr W195).1
  have K203 := K193.wr W195 (Or.inl (List.mem_of_getElem? (i := 0) rfl))
  have f204 := f188.same W195
  have N205 := Fr.snoc X195 N180 g_o
  refine own_ret X195 (some (.ref b181)) (fun h => by rw [Bd.returns] at h; cases h) Bd.notSynchronized (by decide) (by decide) ?_ (fun fs hr => own_retR X195 hx Bd.returns rfl rfl (hb hby own_d24_59) hr)
  show Q_rm_grow1 Z o aE kE mc h0 n0 _ T195.heap _
  rw [e195]
  exact ⟨b181, k181, rfl, N205, K203, sz185, f196, f197, f204, f198, f201, O181⟩
theorem own_ef_rm_grow (m : MethodId) (o : Addr) : entryFrame m #[(.ref o)] 1 = mkF m 0 #[.val (.ref o)] [] := by first | (simp [entryFrame, mkF, argsToLocals, Value.category]; done) | rfl
def Q_rm_grow (Z : State) (o : Addr) (aE : Addr) (kE : ClassId) (mc : Int32) (h0 : Heap) (n0 : Nat) (v : Option Value) (h : Heap) (L : List Loc) : Prop := ∃ (b : Addr) (kb : ClassId), v = some (.ref b) ∧ Fr n0 L ∧ Keep h0 h [o] ∧ h0.size ≤ b ∧ Exa Z h o "java/util/ArrayList" ∧ Fld Z h o "java/util/AbstractList" "modCount" "I" (.int mc) ∧ Fld Z h o "java/util/ArrayList" "elementData" "[Ljava/lang/Object;" (.ref b) ∧ Fld Z h o "java/util/ArrayList" "size" "I" (.int (0 : Int32)) ∧ Arv Z h b kb (.object "java/lang/Object") (10 : Int32) [.null, .null, .null, .null, .null, .null, .null, .null, .null, .null] .null ∧ Ovr Z kb "java/lang/Object"
theorem own_d23_0 : decode jdk_38_method_7_code 0 = .ok (.aload_n 0, 1) := by decide +kernel
theorem own_d23_1 : decode jdk_38_method_7_code 1 = .ok (.aload_n 0, 1) := by decide +kernel
theorem own_d23_2 : decode jdk_38_method_7_code 2 = .ok (.getfield 48, 3) := by decide +kernel
theorem own_d23_5 : decode jdk_38_method_7_code 5 = .ok (.iconst 1, 1) := by decide +kernel
theorem own_d23_6 : decode jdk_38_method_7_code 6 = .ok (.iadd, 1) := by decide +kernel
theorem own_d23_7 : decode jdk_38_method_7_code 7 = .ok (.invokevirtual 69, 3) := by decide +kernel
theorem own_pd2 : parseMethodDescriptor "(I)[Ljava/lang/Object;" = some ⟨[.int], some (.array (.object "java/lang/Object"))⟩ := by decide +kernel
theorem own_d23_10 : decode jdk_38_method_7_code 10 = .ok (.areturn, 1) := by decide +kernel
set_option maxRecDepth 65536 in
set_option maxHeartbeats 40000000 in
theorem rm_grow (l : Launch) (Z : State) (a0 : Array Value) (hw : ∀ d ∈ tables_1, d.before a0 Z = true) (ws : List Jvm.Cond) (o : Addr) (aE : Addr) (kE : ClassId) (mc : Int32) (h0 : Heap) (n0 : Nat) (Z0 : n0 ≤ h0.size) (E1 : Exa Z h0 o "java/util/ArrayList") (F1 : Fld Z h0 o "java/util/AbstractList" "modCount" "I" (.int mc)) (F2 : Fld Z h0 o "java/util/ArrayList" "elementData" "[Ljava/lang/Object;" (.ref aE)) (F3 : Fld Z h0 o "java/util/ArrayList" "size" "I" (.int (0 : Int32))) (A1 : Arv Z h0 aE kE (.object "java/lang/Object") (0 : Int32) [] .null) (S1 : Sta Z h0 "java/util/ArrayList" "DEFAULTCAPACITY_EMPTY_ELEMENTDATA" "[Ljava/lang/Object;" (.ref aE)) (g_o : n0 ≤ o) (ne_oE : o ≠ aE) :
    MetFree l (⟨"java/util/ArrayList", "grow", "()[Ljava/lang/Object;"⟩ : MethodName) (head1 (Jvm.Cond.code (⟨"java/util/ArrayList", "grow", "()[Ljava/lang/Object;"⟩ : MethodName) jdk_38_method_7_code 1 (some (.array (.object "java/lang/Object"))) :: ws) ({ frames := 2, cells := 1, slots := 10, locals := 40 } : Room)) (fun aa U => aa = #[(.ref o)] ∧ Z.Warmed39 U.vm ∧ U.heap = h0) (fun _ _ _ _ _ => True) (fun _ U ou U' => ∃ v L, ou = .returned v ∧ Q_rm_grow Z o aE kE mc h0 n0 v U'.heap L ∧ FrameEnd U ou U' L ({ frames := 2, cells := 1, slots := 10, locals := 40 } : Room).cells ({ frames := 2, cells := 1, slots := 10, locals := 40 } : Room).slots) := by
  refine MetFree.of_bodySF (plainFor_of_name own_pn4) hisR ?_
  intro p e s m args below meth c s₁ Bd hml0 hP hK
  obtain ⟨rfl, hZ, hh⟩ := hP
  have hx := Bd.exec
  have hby := Bd.bytes
  have hml : c.maxLocals = 1 := hml0
  have hown : s.vm.findClass "java/util/ArrayList" = some m.cls := findClass_of_methodNamed Bd.named
  have hnm := (name_of_methodNamed Bd.named Bd.method).1
  have X0 : Stand p l e ({ frames := 2, cells := 1, slots := 10, locals := 40 } : Room) s m #[(.ref o)] below meth c s₁ [] 0 0 := Stand.of_body Bd
  have e0 : s₁.heap = h0 := by rw [← hh, Bd.state]; rfl
  have N0 := Fr.nil n0
  have K0 := Keep.refl h0 [o]
  show own_Go p e below (fun o u L => FrameEnd s o u L ({ frames := 2, cells := 1, slots := 10, locals := 40 } : Room).cells ({ frames := 2, cells := 1, slots := 10, locals := 40 } : Room).slots) (Q_rm_grow Z o aE kE mc h0 n0) (s₁.setTop (entryFrame m #[(.ref o)] 1))
  rw [own_ef_rm_grow m o]
  show own_Go _ _ _ _ _ (State.setTop _ (mkF _ 0 #[.val (.ref o)] []))
  refine own_aloadN X0 hx 1 rfl (hb hby own_d23_0) rfl rfl ?_
  refine own_aloadN X0 hx 2 rfl (hb hby own_d23_1) rfl rfl ?_
  refine own_getF X0 hx hZ (host := "") hown (Or.inl (own_hw hw 130 rfl)) Via.refl e0 F3 5 rfl (hb hby own_d23_2) fun T206 X206 e206 => ?_
  refine own_iconst X206 hx 6 rfl (hb hby own_d23_5) (1 : Int32) rfl ?_
  refine own_iadd X206 hx 7 rfl (hb hby own_d23_6) (1 : Int32) rfl ?_
  refine own_private X206 hx hZ (y := (⟨"java/util/ArrayList", "grow", "(I)[Ljava/lang/Object;"⟩ : MethodName)) (z := (⟨"java/util/ArrayList", "grow", "(I)[Ljava/lang/Object;"⟩ : MethodName)) hown (own_hw hw 142 rfl) (own_hw hw 143 rfl) rfl (own_hw hw 145 rfl) (own_hw hw 144 rfl) (a := o) E1 (by decide) (rm_grow1 l Z a0 hw [] o aE kE mc h0 n0 Z0 E1 F1 F2 F3 A1 S1 g_o ne_oE) (own_hw hw 146 rfl) (own_hw hw 55 rfl) (by decide) e206 (by rw [hml]; rfl) [(.int (1 : Int32))] 0 (by decide) (Nat.le_of_eq rfl) (by decide) (by decide) (lenOf own_pd2 rfl) rfl rfl 10 rfl (hb hby own_d23_7) fun v207 T207 Lc207 X207 hQ207 => ?_
  obtain ⟨b_207, kb_207, rfl, Nq207, Kq207, sd0_207, f208, f209, f210, f211, f212, f213⟩ := hQ207
  have N214 := Fr.app N0 Nq207
  have ne215 : o ≠ b_207 := Nat.ne_of_lt (Nat.lt_of_lt_of_le E1.lt sd0_207)
  have ne216 : aE ≠ b_207 := Nat.ne_of_lt (Nat.lt_of_lt_of_le A1.lt sd0_207)
  have ge217 : n0 ≤ b_207 := Nat.le_trans Z0 sd0_207
  have sz218 : h0.size ≤ b_207 := Nat.le_trans K0.1 sd0_207
  have f219 := E1.keep Kq207
  have f223 := A1.keep Kq207 (ninS (Ne.symm ne_oE) nin0)
  have f224 := own_staKeep S1 Kq207 (nsS E1.nostat ns0)
  have z225 := Nat.le_trans Z0 Kq207.1
  have K226 := K0.trans Kq207 (allS (Or.inl (List.mem_of_getElem? (i := 0) rfl)) all0)
  show own_Go _ _ _ _ _ (State.setTop _ (mkF _ 10 _ [(.ref b_207)]))
  refine own_ret X207 (some (.ref b_207)) (fun h => by rw [Bd.returns] at h; cases h) Bd.notSynchronized (by decide) (by decide) ?_ (fun fs hr => own_retR X207 hx Bd.returns rfl rfl (hb hby own_d23_10) hr)
  show Q_rm_grow Z o aE kE mc h0 n0 _ T207.heap _
  exact ⟨b_207, kb_207, rfl, N214, K226, sz218, f208, f209, f210, f211, f212, f213⟩
theorem own_ef_rm_addp0 (m : MethodId) (o : Addr) (f : Addr) (aE : Addr) : entryFrame m #[(.ref o), (.ref f), (.ref aE), (.int (0 : Int32))] 4 = mkF m 0 #[.val (.ref o), .val (.ref f), .val (.ref aE), .val (.int (0 : Int32))] [] := by first | (simp [entryFrame, mkF, argsToLocals, Value.category]; done) | rfl
def Q_rm_addp0 (Z : State) (o : Addr) (aE : Addr) (kE : ClassId) (mc : Int32) (f : Addr) (h0 : Heap) (n0 : Nat) (v : Option Value) (h : Heap) (L : List Loc) : Prop := ∃ (b : Addr) (kb : ClassId), v = none ∧ Fr n0 L ∧ Keep h0 h [o] ∧ h0.size ≤ b ∧ Exa Z h o "java/util/ArrayList" ∧ Fld Z h o "java/util/AbstractList" "modCount" "I" (.int mc) ∧ Fld Z h o "java/util/ArrayList" "elementData" "[Ljava/lang/Object;" (.ref b) ∧ Fld Z h o "java/util/ArrayList" "size" "I" (.int (1 : Int32)) ∧ Arv Z h b kb (.object "java/lang/Object") (10 : Int32) [(.ref f), .null, .null, .null, .null, .null, .null, .null, .null, .null] .null ∧ Ovr Z kb "java/lang/Object"
theorem own_d22_0 : decode jdk_38_method_24_code 0 = .ok (.iload_n 3, 1) := by decide +kernel
theorem own_d22_1 : decode jdk_38_method_24_code 1 = .ok (.aload_n 2, 1) := by decide +kernel
theorem own_d22_2 : decode jdk_38_method_24_code 2 = .ok (.arraylength, 1) := by decide +kernel
theorem own_d22_3 : decode jdk_38_method_24_code 3 = .ok (.if_icmp .ne 8, 3) := by decide +kernel
theorem own_d22_6 : decode jdk_38_method_24_code 6 = .ok (.aload_n 0, 1) := by decide +kernel
theorem own_d22_7 : decode jdk_38_method_24_code 7 = .ok (.invokevirtual 129, 3) := by decide +kernel
theorem own_pd3 : parseMethodDescriptor "()[Ljava/lang/Object;" = some ⟨[], some (.array (.object "java/lang/Object"))⟩ := by decide +kernel
theorem own_d22_10 : decode jdk_38_method_24_code 10 = .ok (.astore_n 2, 1) := by decide +kernel
theorem own_d22_11 : decode jdk_38_method_24_code 11 = .ok (.aload_n 2, 1) := by decide +kernel
theorem own_d22_12 : decode jdk_38_method_24_code 12 = .ok (.iload_n 3, 1) := by decide +kernel
theorem own_d22_13 : decode jdk_38_method_24_code 13 = .ok (.aload_n 1, 1) := by decide +kernel
theorem own_d22_14 : decode jdk_38_method_24_code 14 = .ok (.aastore, 1) := by decide +kernel
theorem own_d22_15 : decode jdk_38_method_24_code 15 = .ok (.aload_n 0, 1) := by decide +kernel
theorem own_d22_16 : decode jdk_38_method_24_code 16 = .ok (.iload_n 3, 1) := by decide +kernel
theorem own_d22_17 : decode jdk_38_method_24_code 17 = .ok (.iconst 1, 1) := by decide +kernel
theorem own_d22_18 : decode jdk_38_method_24_code 18 = .ok (.iadd, 1) := by decide +kernel
theorem own_d22_19 : decode jdk_38_method_24_code 19 = .ok (.putfield 48, 3) := by decide +kernel
theorem own_d22_22 : decode jdk_38_method_24_code 22 = .ok (.return_, 1) := by decide +kernel
set_option maxRecDepth 65536 in
set_option maxHeartbeats 40000000 in
theorem rm_addp0 (l : Launch) (Z : State) (a0 : Array Value) (hw : ∀ d ∈ tables_1, d.before a0 Z = true) (ws : List Jvm.Cond) (o : Addr) (aE : Addr) (kE : ClassId) (mc : Int32) (f : Addr) (h0 : Heap) (n0 : Nat) (Z0 : n0 ≤ h0.size) (E1 : Exa Z h0 o "java/util/ArrayList") (F1 : Fld Z h0 o "java/util/AbstractList" "modCount" "I" (.int mc)) (F2 : Fld Z h0 o "java/util/ArrayList" "elementData" "[Ljava/lang/Object;" (.ref aE)) (F3 : Fld Z h0 o "java/util/ArrayList" "size" "I" (.int (0 : Int32))) (A1 : Arv Z h0 aE kE (.object "java/lang/Object") (0 : Int32) [] .null) (S1 : Sta Z h0 "java/util/ArrayList" "DEFAULTCAPACITY_EMPTY_ELEMENTDATA" "[Ljava/lang/Object;" (.ref aE)) (g_o : n0 ≤ o) (ne_oE : o ≠ aE) (E2 : Exa Z h0 f "com/example/measured_reasoner/measuredreasoner/Summary$Field") :
    MetFree l (⟨"java/util/ArrayList", "add", "(Ljava/lang/Object;[Ljava/lang/Object;I)V"⟩ : MethodName) (head1 (Jvm.Cond.code (⟨"java/util/ArrayList", "add", "(Ljava/lang/Object;[Ljava/lang/Object;I)V"⟩ : MethodName) jdk_38_method_24_code 4 none :: ws) ({ frames := 3, cells := 1, slots := 10, locals := 55 } : Room)) (fun aa U => aa = #[(.ref o), (.ref f), (.ref aE), (.int (0 : Int32))] ∧ Z.Warmed39 U.vm ∧ U.heap = h0) (fun _ _ _ _ _ => True) (fun _ U ou U' => ∃ v L, ou = .returned v ∧ Q_rm_addp0 Z o aE kE mc f h0 n0 v U'.heap L ∧ FrameEnd U ou U' L ({ frames := 3, cells := 1, slots := 10, locals := 55 } : Room).cells ({ frames := 3, cells := 1, slots := 10, locals := 55 } : Room).slots) := by
  refine MetFree.of_bodySF (plainFor_of_name own_pn4) hisR ?_
  intro p e s m args below meth c s₁ Bd hml0 hP hK
  obtain ⟨rfl, hZ, hh⟩ := hP
  have hx := Bd.exec
  have hby := Bd.bytes
  have hml : c.maxLocals = 4 := hml0
  have hown : s.vm.findClass "java/util/ArrayList" = some m.cls := findClass_of_methodNamed Bd.named
  have hnm := (name_of_methodNamed Bd.named Bd.method).1
  have X0 : Stand p l e ({ frames := 3, cells := 1, slots := 10, locals := 55 } : Room) s m #[(.ref o), (.ref f), (.ref aE), (.int (0 : Int32))] below meth c s₁ [] 0 0 := Stand.of_body Bd
  have e0 : s₁.heap = h0 := by rw [← hh, Bd.state]; rfl
  have N0 := Fr.nil n0
  have K0 := Keep.refl h0 [o]
  show own_Go p e below (fun o u L => FrameEnd s o u L ({ frames := 3, cells := 1, slots := 10, locals := 55 } : Room).cells ({ frames := 3, cells := 1, slots := 10, locals := 55 } : Room).slots) (Q_rm_addp0 Z o aE kE mc f h0 n0) (s₁.setTop (entryFrame m #[(.ref o), (.ref f), (.ref aE), (.int (0 : Int32))] 4))
  rw [own_ef_rm_addp0 m o f aE]
  show own_Go _ _ _ _ _ (State.setTop _ (mkF _ 0 #[.val (.ref o), .val (.ref f), .val (.ref aE), .val (.int (0 : Int32))] []))
  refine own_iloadN X0 hx 1 rfl (hb hby own_d22_0) rfl ?_
  refine own_aloadN X0 hx 2 rfl (hb hby own_d22_1) rfl rfl ?_
  refine own_len X0 hx hZ e0 A1 3 rfl (hb hby own_d22_2) ?_
  refine own_icmpNo X0 hx 6 rfl (hb hby own_d22_3) (by decide) ?_
  refine own_aloadN X0 hx 7 rfl (hb hby own_d22_6) rfl rfl ?_
  refine own_private X0 hx hZ (y := (⟨"java/util/ArrayList", "grow", "()[Ljava/lang/Object;"⟩ : MethodName)) (z := (⟨"java/util/ArrayList", "grow", "()[Ljava/lang/Object;"⟩ : MethodName)) hown (own_hw hw 137 rfl) (own_hw hw 138 rfl) rfl (own_hw hw 140 rfl) (own_hw hw 139 rfl) (a := o) E1 (by decide) (rm_grow l Z a0 hw [] o aE kE mc h0 n0 Z0 E1 F1 F2 F3 A1 S1 g_o ne_oE) (own_hw hw 141 rfl) (own_hw hw 55 rfl) (by decide) e0 (by rw [hml]; rfl) [] 0 (by decide) (Nat.le_of_eq rfl) (by decide) (by decide) (lenOf own_pd3 rfl) rfl rfl 10 rfl (hb hby own_d22_7) fun v227 T227 Lc227 X227 hQ227 => ?_
  obtain ⟨b_227, kb_227, rfl, Nq227, Kq227, sd0_227, f228, f229, f230, f231, f232, f233⟩ := hQ227
  have N234 := Fr.app N0 Nq227
  have ne235 : o ≠ b_227 := Nat.ne_of_lt (Nat.lt_of_lt_of_le E1.lt sd0_227)
  have ne236 : aE ≠ b_227 := Nat.ne_of_lt (Nat.lt_of_lt_of_le A1.lt sd0_227)
  have ne237 : f ≠ b_227 := Nat.ne_of_lt (Nat.lt_of_lt_of_le E2.lt sd0_227)
  have ge238 : n0 ≤ b_227 := Nat.le_trans Z0 sd0_227
  have sz239 : h0.size ≤ b_227 := Nat.le_trans K0.1 sd0_227
  have f240 := E1.keep Kq227
  have f244 := A1.keep Kq227 (ninS (Ne.symm ne_oE) nin0)
  have f245 := own_staKeep S1 Kq227 (nsS E1.nostat ns0)
  have f246 := E2.keep Kq227
  have z247 := Nat.le_trans Z0 Kq227.1
  have K248 := K0.trans Kq227 (allS (Or.inl (List.mem_of_getElem? (i := 0) rfl)) all0)
  show own_Go _ _ _ _ _ (State.setTop _ (mkF _ 10 _ [(.ref b_227)]))
  refine own_astoreN X227 hx 11 rfl (hb hby own_d22_10) rfl #[.val (.ref o), .val (.ref f), .val (.ref b_227), .val (.int (0 : Int32))] rfl ?_
  refine own_aloadN X227 hx 12 rfl (hb hby own_d22_11) rfl rfl ?_
  refine own_iloadN X227 hx 13 rfl (hb hby own_d22_12) rfl ?_
  refine own_aloadN X227 hx 14 rfl (hb hby own_d22_13) rfl rfl ?_
  refine own_stR X227 hx hZ rfl f232 rfl f233 (Ins.of_exa f246 (own_hw hw 153 rfl)) rfl ⟨by decide, by decide⟩ 0 rfl (Nat.le_of_ble_eq_true rfl) [(.ref f), .null, .null, .null, .null, .null, .null, .null, .null, .null] rfl 15 rfl (hb hby own_d22_14) fun T249 h249 X249 e249 W249 f250 => ?_
  have f251 := f228.wr W249
  have f252 := f244.other W249 ne236
  have f253 := f245.wr W249
  have f254 := f246.wr W249
  have f255 := f229.other W249 (Or.inl ne235)
  have f256 := f230.other W249 (Or.inl ne235)
  have f257 := f231.other W249 (Or.inl ne235)
  have z258 := Nat.le_trans z247 (Keep.of_wr W249).1
  have K259 := K248.wr W249 (Or.inr sz239)
  have N260 := Fr.snoc X249 N234 ge238
  refine own_aloadN X249 hx 16 rfl (hb hby own_d22_15) rfl rfl ?_
  refine own_iloadN X249 hx 17 rfl (hb hby own_d22_16) rfl ?_
  refine own_iconst X249 hx 18 rfl (hb hby own_d22_17) (1 : Int32) rfl ?_
  refine own_iadd X249 hx 19 rfl (hb hby own_d22_18) (1 : Int32) rfl ?_
  refine own_putF X249 hx hZ (host := "") hown (Or.inl (own_hw hw 130 rfl)) Via.refl e249 f257 f251 (Or.inl (own_hw hw 131 rfl)) (own_hw hw 54 rfl) (ty := .int) (by decide) rfl rfl 22 rfl (hb hby own_d22_19) fun T261 h261 X261 e261 W261 => ?_
  have f262 := f251.wr W261
  have f263 := f252.other W261 (Ne.symm ne_oE)
  have f264 := f253.wr W261
  have f265 := f254.wr W261
  have f266 := f255.other W261 (Or.inr (slot_ne (Or.inl (own_hw hw 73 rfl)) (Or.inl (own_hw hw 131 rfl)) (by decide) (t := .int) (t' := .int) (by decide) (by decide)))
  have f267 := f256.other W261 (Or.inr (slot_ne (Or.inl (own_hw hw 76 rfl)) (Or.inl (own_hw hw 131 rfl)) (by decide) (t := (.array (.object "java/lang/Object"))) (t' := .int) (by decide) (by decide)))
  have f268 := f250.other W261 (Ne.symm ne235)
  have z269 := Nat.le_trans z258 (Keep.of_wr W261).1
  have K270 := K259.wr W261 (Or.inl (List.mem_of_getElem? (i := 0) rfl))
  have f271 := f257.same W261
  have N272 := Fr.snoc X261 N260 g_o
  refine own_ret X261 none (fun _ => rfl) Bd.notSynchronized (by decide) (by decide) ?_ (fun fs hr => X261.returnOut hx Bd.returns (hb hby own_d22_22) hr)
  show Q_rm_addp0 Z o aE kE mc f h0 n0 _ T261.heap _
  rw [e261]
  exact ⟨b_227, kb_227, rfl, N272, K270, sz239, f262, f266, f267, f271, f268, f233⟩
theorem own_ef_rm_add0 (m : MethodId) (o : Addr) (f : Addr) : entryFrame m #[(.ref o), (.ref f)] 2 = mkF m 0 #[.val (.ref o), .val (.ref f)] [] := by first | (simp [entryFrame, mkF, argsToLocals, Value.category]; done) | rfl
def Q_rm_add0 (Z : State) (o : Addr) (aE : Addr) (kE : ClassId) (mc : Int32) (f : Addr) (h0 : Heap) (n0 : Nat) (v : Option Value) (h : Heap) (L : List Loc) : Prop := ∃ (b : Addr) (kb : ClassId), v = some (.int (1 : Int32)) ∧ Fr n0 L ∧ Keep h0 h [o] ∧ h0.size ≤ b ∧ Exa Z h o "java/util/ArrayList" ∧ Fld Z h o "java/util/AbstractList" "modCount" "I" (.int (mc + (1 : Int32))) ∧ Fld Z h o "java/util/ArrayList" "elementData" "[Ljava/lang/Object;" (.ref b) ∧ Fld Z h o "java/util/ArrayList" "size" "I" (.int (1 : Int32)) ∧ Arv Z h b kb (.object "java/lang/Object") (10 : Int32) [(.ref f), .null, .null, .null, .null, .null, .null, .null, .null, .null] .null ∧ Ovr Z kb "java/lang/Object"
theorem own_d21_0 : decode jdk_38_method_25_code 0 = .ok (.aload_n 0, 1) := by decide +kernel
theorem own_d21_1 : decode jdk_38_method_25_code 1 = .ok (.dup, 1) := by decide +kernel
theorem own_d21_2 : decode jdk_38_method_25_code 2 = .ok (.getfield 63, 3) := by decide +kernel
theorem own_d21_5 : decode jdk_38_method_25_code 5 = .ok (.iconst 1, 1) := by decide +kernel
theorem own_d21_6 : decode jdk_38_method_25_code 6 = .ok (.iadd, 1) := by decide +kernel
theorem own_d21_7 : decode jdk_38_method_25_code 7 = .ok (.putfield 63, 3) := by decide +kernel
theorem own_d21_10 : decode jdk_38_method_25_code 10 = .ok (.aload_n 0, 1) := by decide +kernel
theorem own_d21_11 : decode jdk_38_method_25_code 11 = .ok (.aload_n 1, 1) := by decide +kernel
theorem own_d21_12 : decode jdk_38_method_25_code 12 = .ok (.aload_n 0, 1) := by decide +kernel
theorem own_d21_13 : decode jdk_38_method_25_code 13 = .ok (.getfield 9, 3) := by decide +kernel
theorem own_d21_16 : decode jdk_38_method_25_code 16 = .ok (.aload_n 0, 1) := by decide +kernel
theorem own_d21_17 : decode jdk_38_method_25_code 17 = .ok (.getfield 48, 3) := by decide +kernel
theorem own_d21_20 : decode jdk_38_method_25_code 20 = .ok (.invokevirtual 131, 3) := by decide +kernel
theorem own_pd4 : parseMethodDescriptor "(Ljava/lang/Object;[Ljava/lang/Object;I)V" = some ⟨[(.object "java/lang/Object"), (.array (.object "java/lang/Object")), .int], none⟩ := by decide +kernel
theorem own_d21_23 : decode jdk_38_method_25_code 23 = .ok (.iconst 1, 1) := by decide +kernel
theorem own_d21_24 : decode jdk_38_method_25_code 24 = .ok (.ireturn, 1) := by decide +kernel
set_option maxRecDepth 65536 in
set_option maxHeartbeats 40000000 in
theorem rm_add0 (l : Launch) (Z : State) (a0 : Array Value) (hw : ∀ d ∈ tables_1, d.before a0 Z = true) (ws : List Jvm.Cond) (o : Addr) (aE : Addr) (kE : ClassId) (mc : Int32) (f : Addr) (h0 : Heap) (n0 : Nat) (Z0 : n0 ≤ h0.size) (E1 : Exa Z h0 o "java/util/ArrayList") (F1 : Fld Z h0 o "java/util/AbstractList" "modCount" "I" (.int mc)) (F2 : Fld Z h0 o "java/util/ArrayList" "elementData" "[Ljava/lang/Object;" (.ref aE)) (F3 : Fld Z h0 o "java/util/ArrayList" "size" "I" (.int (0 : Int32))) (A1 : Arv Z h0 aE kE (.object "java/lang/Object") (0 : Int32) [] .null) (S1 : Sta Z h0 "java/util/ArrayList" "DEFAULTCAPACITY_EMPTY_ELEMENTDATA" "[Ljava/lang/Object;" (.ref aE)) (g_o : n0 ≤ o) (ne_oE : o ≠ aE) (E2 : Exa Z h0 f "com/example/measured_reasoner/measuredreasoner/Summary$Field") :
    MetFree l (⟨"java/util/ArrayList", "add", "(Ljava/lang/Object;)Z"⟩ : MethodName) (head1 (Jvm.Cond.code (⟨"java/util/ArrayList", "add", "(Ljava/lang/Object;)Z"⟩ : MethodName) jdk_38_method_25_code 2 (some .boolean) :: ws) ({ frames := 4, cells := 1, slots := 10, locals := 75 } : Room)) (fun aa U => aa = #[(.ref o), (.ref f)] ∧ Z.Warmed39 U.vm ∧ U.heap = h0) (fun _ _ _ _ _ => True) (fun _ U ou U' => ∃ v L, ou = .returned v ∧ Q_rm_add0 Z o aE kE mc f h0 n0 v U'.heap L ∧ FrameEnd U ou U' L ({ frames := 4, cells := 1, slots := 10, locals := 75 } : Room).cells ({ frames := 4, cells := 1, slots := 10, locals := 75 } : Room).slots) := by
  refine MetFree.of_bodySF (plainFor_of_name own_pn4) hisR ?_
  intro p e s m args below meth c s₁ Bd hml0 hP hK
  obtain ⟨rfl, hZ, hh⟩ := hP
  have hx := Bd.exec
  have hby := Bd.bytes
  have hml : c.maxLocals = 2 := hml0
  have hown : s.vm.findClass "java/util/ArrayList" = some m.cls := findClass_of_methodNamed Bd.named
  have hnm := (name_of_methodNamed Bd.named Bd.method).1
  have X0 : Stand p l e ({ frames := 4, cells := 1, slots := 10, locals := 75 } : Room) s m #[(.ref o), (.ref f)] below meth c s₁ [] 0 0 := Stand.of_body Bd
  have e0 : s₁.heap = h0 := by rw [← hh, Bd.state]; rfl
  have N0 := Fr.nil n0
  have K0 := Keep.refl h0 [o]
  show own_Go p e below (fun o u L => FrameEnd s o u L ({ frames := 4, cells := 1, slots := 10, locals := 75 } : Room).cells ({ frames := 4, cells := 1, slots := 10, locals := 75 } : Room).slots) (Q_rm_add0 Z o aE kE mc f h0 n0) (s₁.setTop (entryFrame m #[(.ref o), (.ref f)] 2))
  rw [own_ef_rm_add0 m o f]
  show own_Go _ _ _ _ _ (State.setTop _ (mkF _ 0 #[.val (.ref o), .val (.ref f)] []))
  refine own_aloadN X0 hx 1 rfl (hb hby own_d21_0) rfl rfl ?_
  refine own_dup X0 hx 2 rfl (hb hby own_d21_1) rfl ?_
  refine own_getF X0 hx hZ (host := "") hown (Or.inl (own_hw hw 128 rfl)) (Via.of (own_hw hw 129 rfl)) e0 F1 5 rfl (hb hby own_d21_2) fun T273 X273 e273 => ?_
  refine own_iconst X273 hx 6 rfl (hb hby own_d21_5) (1 : Int32) rfl ?_
  refine own_iadd X273 hx 7 rfl (hb hby own_d21_6) _ rfl ?_
  refine own_putF X273 hx hZ (host := "") hown (Or.inl (own_hw hw 128 rfl)) (Via.of (own_hw hw 129 rfl)) e273 F1 E1 (Or.inl (own_hw hw 73 rfl)) (own_hw hw 54 rfl) (ty := .int) (by decide) rfl rfl 10 rfl (hb hby own_d21_7) fun T274 h274 X274 e274 W274 => ?_
  have f275 := E1.wr W274
  have f276 := F2.other W274 (Or.inr (slot_ne (Or.inl (own_hw hw 76 rfl)) (Or.inl (own_hw hw 73 rfl)) (by decide) (t := (.array (.object "java/lang/Object"))) (t' := .int) (by decide) (by decide)))
  have f277 := F3.other W274 (Or.inr (slot_ne (Or.inl (own_hw hw 131 rfl)) (Or.inl (own_hw hw 73 rfl)) (by decide) (t := .int) (t' := .int) (by decide) (by decide)))
  have f278 := A1.other W274 (Ne.symm ne_oE)
  have f279 := S1.wr W274
  have f280 := E2.wr W274
  have z281 := Nat.le_trans Z0 (Keep.of_wr W274).1
  have K282 := K0.wr W274 (Or.inl (List.mem_of_getElem? (i := 0) rfl))
  have f283 := F1.same W274
  have N284 := Fr.snoc X274 N0 g_o
  refine own_aloadN X274 hx 11 rfl (hb hby own_d21_10) rfl rfl ?_
  refine own_aloadN X274 hx 12 rfl (hb hby own_d21_11) rfl rfl ?_
  refine own_aloadN X274 hx 13 rfl (hb hby own_d21_12) rfl rfl ?_
  refine own_getF X274 hx hZ (host := "") hown (Or.inl (own_hw hw 75 rfl)) Via.refl e274 f276 16 rfl (hb hby own_d21_13) fun T285 X285 e285 => ?_
  refine own_aloadN X285 hx 17 rfl (hb hby own_d21_16) rfl rfl ?_
  refine own_getF X285 hx hZ (host := "") hown (Or.inl (own_hw hw 130 rfl)) Via.refl e285 f277 20 rfl (hb hby own_d21_17) fun T286 X286 e286 => ?_
  refine own_private X286 hx hZ (y := (⟨"java/util/ArrayList", "add", "(Ljava/lang/Object;[Ljava/lang/Object;I)V"⟩ : MethodName)) (z := (⟨"java/util/ArrayList", "add", "(Ljava/lang/Object;[Ljava/lang/Object;I)V"⟩ : MethodName)) hown (own_hw hw 132 rfl) (own_hw hw 133 rfl) rfl (own_hw hw 135 rfl) (own_hw hw 134 rfl) (a := o) f275 (by decide) (rm_addp0 l Z a0 hw [] o aE kE (mc + (1 : Int32)) f h274 n0 z281 f275 f283 f276 f277 f278 f279 g_o ne_oE f280) (own_hw hw 136 rfl) (own_hw hw 55 rfl) (by decide) e286 (by rw [hml]; rfl) [(.ref f), (.ref aE), (.int (0 : Int32))] 0 (by decide) (Nat.le_of_eq rfl) (by decide) (by decide) (lenOf own_pd4 rfl) rfl rfl 23 rfl (hb hby own_d21_20) fun v287 T287 Lc287 X287 hQ287 => ?_
  obtain ⟨b_287, kb_287, rfl, Nq287, Kq287, sd0_287, f288, f289, f290, f291, f292, f293⟩ := hQ287
  have N294 := Fr.app N284 Nq287
  have ne295 : o ≠ b_287 := Nat.ne_of_lt (Nat.lt_of_lt_of_le f275.lt sd0_287)
  have ne296 : aE ≠ b_287 := Nat.ne_of_lt (Nat.lt_of_lt_of_le f278.lt sd0_287)
  have ne297 : f ≠ b_287 := Nat.ne_of_lt (Nat.lt_of_lt_of_le f280.lt sd0_287)
  have ge298 : n0 ≤ b_287 := Nat.le_trans z281 sd0_287
  have sz299 : h0.size ≤ b_287 := Nat.le_trans K282.1 sd0_287
  have f300 := f275.keep Kq287
  have f303 := f278.keep Kq287 (ninS (Ne.symm ne_oE) nin0)
  have f304 := own_staKeep f279 Kq287 (nsS f275.nostat ns0)
  have f305 := f280.keep Kq287
  have z307 := Nat.le_trans z281 Kq287.1
  have K308 := K282.trans Kq287 (allS (Or.inl (List.mem_of_getElem? (i := 0) rfl)) all0)
  show own_Go _ _ _ _ _ (State.setTop _ (mkF _ 23 _ []))
  refine own_iconst X287 hx 24 rfl (hb hby own_d21_23) (1 : Int32) rfl ?_
  refine own_ret X287 (some (.int (1 : Int32))) (fun h => by rw [Bd.returns] at h; cases h) Bd.notSynchronized (by decide) (by decide) ?_ (fun fs hr => retN X287 hx (t := .boolean) Bd.returns (by simp) (hb hby own_d21_24) hr)
  show Q_rm_add0 Z o aE kE mc f h0 n0 _ T287.heap _
  exact ⟨b_287, kb_287, rfl, N294, K308, sz299, f288, f289, f290, f291, f292, f293⟩
theorem own_ef_rm_addp1 (m : MethodId) (o : Addr) (f : Addr) (a : Addr) : entryFrame m #[(.ref o), (.ref f), (.ref a), (.int (1 : Int32))] 4 = mkF m 0 #[.val (.ref o), .val (.ref f), .val (.ref a), .val (.int (1 : Int32))] [] := by first | (simp [entryFrame, mkF, argsToLocals, Value.category]; done) | rfl
def Q_rm_addp1 (Z : State) (o : Addr) (a : Addr) (ka : ClassId) (mc : Int32) (f : Addr) (xe0 : Addr) (h0 : Heap) (n0 : Nat) (v : Option Value) (h : Heap) (L : List Loc) : Prop := v = none ∧ Fr n0 L ∧ Keep h0 h [o, a] ∧ Exa Z h o "java/util/ArrayList" ∧ Fld Z h o "java/util/AbstractList" "modCount" "I" (.int mc) ∧ Fld Z h o "java/util/ArrayList" "elementData" "[Ljava/lang/Object;" (.ref a) ∧ Fld Z h o "java/util/ArrayList" "size" "I" (.int (2 : Int32)) ∧ Arv Z h a ka (.object "java/lang/Object") (10 : Int32) [(.ref xe0), (.ref f), .null, .null, .null, .null, .null, .null, .null, .null] .null
set_option maxRecDepth 65536 in
set_option maxHeartbeats 40000000 in
theorem rm_addp1 (l : Launch) (Z : State) (a0 : Array Value) (hw : ∀ d ∈ tables_1, d.before a0 Z = true) (ws : List Jvm.Cond) (o : Addr) (a : Addr) (ka : ClassId) (mc : Int32) (f : Addr) (xe0 : Addr) (h0 : Heap) (n0 : Nat) (Z0 : n0 ≤ h0.size) (E1 : Exa Z h0 o "java/util/ArrayList") (F1 : Fld Z h0 o "java/util/AbstractList" "modCount" "I" (.int mc)) (F2 : Fld Z h0 o "java/util/ArrayList" "elementData" "[Ljava/lang/Object;" (.ref a)) (F3 : Fld Z h0 o "java/util/ArrayList" "size" "I" (.int (1 : Int32))) (A1 : Arv Z h0 a ka (.object "java/lang/Object") (10 : Int32) [(.ref xe0), .null, .null, .null, .null, .null, .null, .null, .null, .null] .null) (O1 : Ovr Z ka "java/lang/Object") (g_o : n0 ≤ o) (g_a : n0 ≤ a) (ne_oa : o ≠ a) (E2 : Exa Z h0 f "com/example/measured_reasoner/measuredreasoner/Summary$Field") :
    MetFree l (⟨"java/util/ArrayList", "add", "(Ljava/lang/Object;[Ljava/lang/Object;I)V"⟩ : MethodName) (head1 (Jvm.Cond.code (⟨"java/util/ArrayList", "add", "(Ljava/lang/Object;[Ljava/lang/Object;I)V"⟩ : MethodName) jdk_38_method_24_code 4 none :: ws) ({ frames := 0, cells := 0, slots := 0, locals := 0 } : Room)) (fun aa U => aa = #[(.ref o), (.ref f), (.ref a), (.int (1 : Int32))] ∧ Z.Warmed39 U.vm ∧ U.heap = h0) (fun _ _ _ _ _ => True) (fun _ U ou U' => ∃ v L, ou = .returned v ∧ Q_rm_addp1 Z o a ka mc f xe0 h0 n0 v U'.heap L ∧ FrameEnd U ou U' L ({ frames := 0, cells := 0, slots := 0, locals := 0 } : Room).cells ({ frames := 0, cells := 0, slots := 0, locals := 0 } : Room).slots) := by
  refine MetFree.of_bodySF (plainFor_of_name own_pn4) hisR ?_
  intro p e s m args below meth c s₁ Bd hml0 hP hK
  obtain ⟨rfl, hZ, hh⟩ := hP
  have hx := Bd.exec
  have hby := Bd.bytes
  have hml : c.maxLocals = 4 := hml0
  have hown : s.vm.findClass "java/util/ArrayList" = some m.cls := findClass_of_methodNamed Bd.named
  have hnm := (name_of_methodNamed Bd.named Bd.method).1
  have X0 : Stand p l e ({ frames := 0, cells := 0, slots := 0, locals := 0 } : Room) s m #[(.ref o), (.ref f), (.ref a), (.int (1 : Int32))] below meth c s₁ [] 0 0 := Stand.of_body Bd
  have e0 : s₁.heap = h0 := by rw [← hh, Bd.state]; rfl
  have N0 := Fr.nil n0
  have K0 := Keep.refl h0 [o, a]
  show own_Go p e below (fun o u L => FrameEnd s o u L ({ frames := 0, cells := 0, slots := 0, locals := 0 } : Room).cells ({ frames := 0, cells := 0, slots := 0, locals := 0 } : Room).slots) (Q_rm_addp1 Z o a ka mc f xe0 h0 n0) (s₁.setTop (entryFrame m #[(.ref o), (.ref f), (.ref a), (.int (1 : Int32))] 4))
  rw [own_ef_rm_addp1 m o f a]
  show own_Go _ _ _ _ _ (State.setTop _ (mkF _ 0 #[.val (.ref o), .val (.ref f), .val (.ref a), .val (.int (1 : Int32))] []))
  refine own_iloadN X0 hx 1 rfl (hb hby own_d22_0) rfl ?_
  refine own_aloadN X0 hx 2 rfl (hb hby own_d22_1) rfl rfl ?_
  refine own_len X0 hx hZ e0 A1 3 rfl (hb hby own_d22_2) ?_
  refine own_icmpYes X0 hx 11 (hb hby own_d22_3) (by decide) (by decide) rfl ?_
  refine own_aloadN X0 hx 12 rfl (hb hby own_d22_11) rfl rfl ?_
  refine own_iloadN X0 hx 13 rfl (hb hby own_d22_12) rfl ?_
  refine own_aloadN X0 hx 14 rfl (hb hby own_d22_13) rfl rfl ?_
  refine own_stR X0 hx hZ e0 A1 rfl O1 (Ins.of_exa E2 (own_hw hw 153 rfl)) rfl ⟨by decide, by decide⟩ 1 rfl (Nat.le_of_ble_eq_true rfl) [(.ref xe0), (.ref f), .null, .null, .null, .null, .null, .null, .null, .null] rfl 15 rfl (hb hby own_d22_14) fun T309 h309 X309 e309 W309 f310 => ?_
  have f311 := E1.wr W309
  have f312 := F1.other W309 (Or.inl ne_oa)
  have f313 := F2.other W309 (Or.inl ne_oa)
  have f314 := F3.other W309 (Or.inl ne_oa)
  have f315 := E2.wr W309
  have z316 := Nat.le_trans Z0 (Keep.of_wr W309).1
  have K317 := K0.wr W309 (Or.inl (List.mem_of_getElem? (i := 1) rfl))
  have N318 := Fr.snoc X309 N0 g_a
  refine own_aloadN X309 hx 16 rfl (hb hby own_d22_15) rfl rfl ?_
  refine own_iloadN X309 hx 17 rfl (hb hby own_d22_16) rfl ?_
  refine own_iconst X309 hx 18 rfl (hb hby own_d22_17) (1 : Int32) rfl ?_
  refine own_iadd X309 hx 19 rfl (hb hby own_d22_18) (2 : Int32) rfl ?_
  refine own_putF X309 hx hZ (host := "") hown (Or.inl (own_hw hw 130 rfl)) Via.refl e309 f314 f311 (Or.inl (own_hw hw 131 rfl)) (own_hw hw 54 rfl) (ty := .int) (by decide) rfl rfl 22 rfl (hb hby own_d22_19) fun T319 h319 X319 e319 W319 => ?_
  have f320 := f311.wr W319
  have f321 := f312.other W319 (Or.inr (slot_ne (Or.inl (own_hw hw 73 rfl)) (Or.inl (own_hw hw 131 rfl)) (by decide) (t := .int) (t' := .int) (by decide) (by decide)))
  have f322 := f313.other W319 (Or.inr (slot_ne (Or.inl (own_hw hw 76 rfl)) (Or.inl (own_hw hw 131 rfl)) (by decide) (t := (.array (.object "java/lang/Object"))) (t' := .int) (by decide) (by decide)))
  have f323 := f315.wr W319
  have f324 := f310.other W319 (Ne.symm ne_oa)
  have z325 := Nat.le_trans z316 (Keep.of_wr W319).1
  have K326 := K317.wr W319 (Or.inl (List.mem_of_getElem? (i := 0) rfl))
  have f327 := f314.same W319
  have N328 := Fr.snoc X319 N318 g_o
  refine own_ret X319 none (fun _ => rfl) Bd.notSynchronized (by decide) (by decide) ?_ (fun fs hr => X319.returnOut hx Bd.returns (hb hby own_d22_22) hr)
  show Q_rm_addp1 Z o a ka mc f xe0 h0 n0 _ T319.heap _
  rw [e319]
  exact ⟨rfl, N328, K326, f320, f321, f322, f327, f324⟩
theorem own_ef_rm_add1 (m : MethodId) (o : Addr) (f : Addr) : entryFrame m #[(.ref o), (.ref f)] 2 = mkF m 0 #[.val (.ref o), .val (.ref f)] [] := by first | (simp [entryFrame, mkF, argsToLocals, Value.category]; done) | rfl
def Q_rm_add1 (Z : State) (o : Addr) (a : Addr) (ka : ClassId) (mc : Int32) (f : Addr) (xe0 : Addr) (h0 : Heap) (n0 : Nat) (v : Option Value) (h : Heap) (L : List Loc) : Prop := v = some (.int (1 : Int32)) ∧ Fr n0 L ∧ Keep h0 h [o, a] ∧ Exa Z h o "java/util/ArrayList" ∧ Fld Z h o "java/util/AbstractList" "modCount" "I" (.int (mc + (1 : Int32))) ∧ Fld Z h o "java/util/ArrayList" "elementData" "[Ljava/lang/Object;" (.ref a) ∧ Fld Z h o "java/util/ArrayList" "size" "I" (.int (2 : Int32)) ∧ Arv Z h a ka (.object "java/lang/Object") (10 : Int32) [(.ref xe0), (.ref f), .null, .null, .null, .null, .null, .null, .null, .null] .null
set_option maxRecDepth 65536 in
set_option maxHeartbeats 40000000 in
theorem rm_add1 (l : Launch) (Z : State) (a0 : Array Value) (hw : ∀ d ∈ tables_1, d.before a0 Z = true) (ws : List Jvm.Cond) (o : Addr) (a : Addr) (ka : ClassId) (mc : Int32) (f : Addr) (xe0 : Addr) (h0 : Heap) (n0 : Nat) (Z0 : n0 ≤ h0.size) (E1 : Exa Z h0 o "java/util/ArrayList") (F1 : Fld Z h0 o "java/util/AbstractList" "modCount" "I" (.int mc)) (F2 : Fld Z h0 o "java/util/ArrayList" "elementData" "[Ljava/lang/Object;" (.ref a)) (F3 : Fld Z h0 o "java/util/ArrayList" "size" "I" (.int (1 : Int32))) (A1 : Arv Z h0 a ka (.object "java/lang/Object") (10 : Int32) [(.ref xe0), .null, .null, .null, .null, .null, .null, .null, .null, .null] .null) (O1 : Ovr Z ka "java/lang/Object") (g_o : n0 ≤ o) (g_a : n0 ≤ a) (ne_oa : o ≠ a) (E2 : Exa Z h0 f "com/example/measured_reasoner/measuredreasoner/Summary$Field") :
    MetFree l (⟨"java/util/ArrayList", "add", "(Ljava/lang/Object;)Z"⟩ : MethodName) (head1 (Jvm.Cond.code (⟨"java/util/ArrayList", "add", "(Ljava/lang/Object;)Z"⟩ : MethodName) jdk_38_method_25_code 2 (some .boolean) :: ws) ({ frames := 1, cells := 0, slots := 0, locals := 20 } : Room)) (fun aa U => aa = #[(.ref o), (.ref f)] ∧ Z.Warmed39 U.vm ∧ U.heap = h0) (fun _ _ _ _ _ => True) (fun _ U ou U' => ∃ v L, ou = .returned v ∧ Q_rm_add1 Z o a ka mc f xe0 h0 n0 v U'.heap L ∧ FrameEnd U ou U' L ({ frames := 1, cells := 0, slots := 0, locals := 20 } : Room).cells ({ frames := 1, cells := 0, slots := 0, locals := 20 } : Room).slots) := by
  refine MetFree.of_bodySF (plainFor_of_name own_pn4) hisR ?_
  intro p e s m args below meth c s₁ Bd hml0 hP hK
  obtain ⟨rfl, hZ, hh⟩ := hP
  have hx := Bd.exec
  have hby := Bd.bytes
  have hml : c.maxLocals = 2 := hml0
  have hown : s.vm.findClass "java/util/ArrayList" = some m.cls := findClass_of_methodNamed Bd.named
  have hnm := (name_of_methodNamed Bd.named Bd.method).1
  have X0 : Stand p l e ({ frames := 1, cells := 0, slots := 0, locals := 20 } : Room) s m #[(.ref o), (.ref f)] below meth c s₁ [] 0 0 := Stand.of_body Bd
  have e0 : s₁.heap = h0 := by rw [← hh, Bd.state]; rfl
  have N0 := Fr.nil n0
  have K0 := Keep.refl h0 [o, a]
  show own_Go p e below (fun o u L => FrameEnd s o u L ({ frames := 1, cells := 0, slots := 0, locals := 20 } : Room).cells ({ frames := 1, cells := 0, slots := 0, locals := 20 } : Room).slots) (Q_rm_add1 Z o a ka mc f xe0 h0 n0) (s₁.setTop (entryFrame m #[(.ref o), (.ref f)] 2))
  rw [own_ef_rm_add1 m o f]
  show own_Go _ _ _ _ _ (State.setTop _ (mkF _ 0 #[.val (.ref o), .val (.ref f)] []))
  refine own_aloadN X0 hx 1 rfl (hb hby own_d21_0) rfl rfl ?_
  refine own_dup X0 hx 2 rfl (hb hby own_d21_1) rfl ?_
  refine own_getF X0 hx hZ (host := "") hown (Or.inl (own_hw hw 128 rfl)) (Via.of (own_hw hw 129 rfl)) e0 F1 5 rfl (hb hby own_d21_2) fun T329 X329 e329 => ?_
  refine own_iconst X329 hx 6 rfl (hb hby own_d21_5) (1 : Int32) rfl ?_
  refine own_iadd X329 hx 7 rfl (hb hby own_d21_6) _ rfl ?_
  refine own_putF X329 hx hZ (host := "") hown (Or.inl (own_hw hw 128 rfl)) (Via.of (own_hw hw 129 rfl)) e329 F1 E1 (Or.inl (own_hw hw 73 rfl)) (own_hw hw 54 rfl) (ty := .int) (by decide) rfl rfl 10 rfl (hb hby own_d21_7) fun T330 h330 X330 e330 W330 => ?_
  have f331 := E1.wr W330
  have f332 := F2.other W330 (Or.inr (slot_ne (Or.inl (own_hw hw 76 rfl)) (Or.inl (own_hw hw 73 rfl)) (by decide) (t := (.array (.object "java/lang/Object"))) (t' := .int) (by decide) (by decide)))
  have f333 := F3.other W330 (Or.inr (slot_ne (Or.inl (own_hw hw 131 rfl)) (Or.inl (own_hw hw 73 rfl)) (by decide) (t := .int) (t' := .int) (by decide) (by decide)))
  have f334 := A1.other W330 (Ne.symm ne_oa)
  have f335 := E2.wr W330
  have z336 := Nat.le_trans Z0 (Keep.of_wr W330).1
  have K337 := K0.wr W330 (Or.inl (List.mem_of_getElem? (i := 0) rfl))
  have f338 := F1.same W330
  have N339 := Fr.snoc X330 N0 g_o
  refine own_aloadN X330 hx 11 rfl (hb hby own_d21_10) rfl rfl ?_
  refine own_aloadN X330 hx 12 rfl (hb hby own_d21_11) rfl rfl ?_
  refine own_aloadN X330 hx 13 rfl (hb hby own_d21_12) rfl rfl ?_
  refine own_getF X330 hx hZ (host := "") hown (Or.inl (own_hw hw 75 rfl)) Via.refl e330 f332 16 rfl (hb hby own_d21_13) fun T340 X340 e340 => ?_
  refine own_aloadN X340 hx 17 rfl (hb hby own_d21_16) rfl rfl ?_
  refine own_getF X340 hx hZ (host := "") hown (Or.inl (own_hw hw 130 rfl)) Via.refl e340 f333 20 rfl (hb hby own_d21_17) fun T341 X341 e341 => ?_
  refine own_private X341 hx hZ (y := (⟨"java/util/ArrayList", "add", "(Ljava/lang/Object;[Ljava/lang/Object;I)V"⟩ : MethodName)) (z := (⟨"java/util/ArrayList", "add", "(Ljava/lang/Object;[Ljava/lang/Object;I)V"⟩ : MethodName)) hown (own_hw hw 132 rfl) (own_hw hw 133 rfl) rfl (own_hw hw 135 rfl) (own_hw hw 134 rfl) (a := o) f331 (by decide) (rm_addp1 l Z a0 hw [] o a ka (mc + (1 : Int32)) f xe0 h330 n0 z336 f331 f338 f332 f333 f334 O1 g_o g_a ne_oa f335) (own_hw hw 136 rfl) (own_hw hw 55 rfl) (by decide) e341 (by rw [hml]; rfl) [(.ref f), (.ref a), (.int (1 : Int32))] 0 (by decide) (Nat.le_of_eq rfl) (by decide) (by decide) (lenOf own_pd4 rfl) rfl rfl 23 rfl (hb hby own_d21_20) fun v342 T342 Lc342 X342 hQ342 => ?_
  obtain ⟨rfl, Nq342, Kq342, f343, f344, f345, f346, f347⟩ := hQ342
  have N348 := Fr.app N339 Nq342
  have f349 := f331.keep Kq342
  have f353 := f335.keep Kq342
  have z355 := Nat.le_trans z336 Kq342.1
  have K356 := K337.trans Kq342 (allS (Or.inl (List.mem_of_getElem? (i := 0) rfl)) (allS (Or.inl (List.mem_of_getElem? (i := 1) rfl)) all0))
  show own_Go _ _ _ _ _ (State.setTop _ (mkF _ 23 _ []))
  refine own_iconst X342 hx 24 rfl (hb hby own_d21_23) (1 : Int32) rfl ?_
  refine own_ret X342 (some (.int (1 : Int32))) (fun h => by rw [Bd.returns] at h; cases h) Bd.notSynchronized (by decide) (by decide) ?_ (fun fs hr => retN X342 hx (t := .boolean) Bd.returns (by simp) (hb hby own_d21_24) hr)
  show Q_rm_add1 Z o a ka mc f xe0 h0 n0 _ T342.heap _
  exact ⟨rfl, N348, K356, f343, f344, f345, f346, f347⟩
theorem own_ef_rm_addp2 (m : MethodId) (o : Addr) (f : Addr) (a : Addr) : entryFrame m #[(.ref o), (.ref f), (.ref a), (.int (2 : Int32))] 4 = mkF m 0 #[.val (.ref o), .val (.ref f), .val (.ref a), .val (.int (2 : Int32))] [] := by first | (simp [entryFrame, mkF, argsToLocals, Value.category]; done) | rfl
def Q_rm_addp2 (Z : State) (o : Addr) (a : Addr) (ka : ClassId) (mc : Int32) (f : Addr) (xe0 : Addr) (xe1 : Addr) (h0 : Heap) (n0 : Nat) (v : Option Value) (h : Heap) (L : List Loc) : Prop := v = none ∧ Fr n0 L ∧ Keep h0 h [o, a] ∧ Exa Z h o "java/util/ArrayList" ∧ Fld Z h o "java/util/AbstractList" "modCount" "I" (.int mc) ∧ Fld Z h o "java/util/ArrayList" "elementData" "[Ljava/lang/Object;" (.ref a) ∧ Fld Z h o "java/util/ArrayList" "size" "I" (.int (3 : Int32)) ∧ Arv Z h a ka (.object "java/lang/Object") (10 : Int32) [(.ref xe0), (.ref xe1), (.ref f), .null, .null, .null, .null, .null, .null, .null] .null
set_option maxRecDepth 65536 in
set_option maxHeartbeats 40000000 in
theorem rm_addp2 (l : Launch) (Z : State) (a0 : Array Value) (hw : ∀ d ∈ tables_1, d.before a0 Z = true) (ws : List Jvm.Cond) (o : Addr) (a : Addr) (ka : ClassId) (mc : Int32) (f : Addr) (xe0 : Addr) (xe1 : Addr) (h0 : Heap) (n0 : Nat) (Z0 : n0 ≤ h0.size) (E1 : Exa Z h0 o "java/util/ArrayList") (F1 : Fld Z h0 o "java/util/AbstractList" "modCount" "I" (.int mc)) (F2 : Fld Z h0 o "java/util/ArrayList" "elementData" "[Ljava/lang/Object;" (.ref a)) (F3 : Fld Z h0 o "java/util/ArrayList" "size" "I" (.int (2 : Int32))) (A1 : Arv Z h0 a ka (.object "java/lang/Object") (10 : Int32) [(.ref xe0), (.ref xe1), .null, .null, .null, .null, .null, .null, .null, .null] .null) (O1 : Ovr Z ka "java/lang/Object") (g_o : n0 ≤ o) (g_a : n0 ≤ a) (ne_oa : o ≠ a) (E2 : Exa Z h0 f "com/example/measured_reasoner/measuredreasoner/Summary$Field") :
    MetFree l (⟨"java/util/ArrayList", "add", "(Ljava/lang/Object;[Ljava/lang/Object;I)V"⟩ : MethodName) (head1 (Jvm.Cond.code (⟨"java/util/ArrayList", "add", "(Ljava/lang/Object;[Ljava/lang/Object;I)V"⟩ : MethodName) jdk_38_method_24_code 4 none :: ws) ({ frames := 0, cells := 0, slots := 0, locals := 0 } : Room)) (fun aa U => aa = #[(.ref o), (.ref f), (.ref a), (.int (2 : Int32))] ∧ Z.Warmed39 U.vm ∧ U.heap = h0) (fun _ _ _ _ _ => True) (fun _ U ou U' => ∃ v L, ou = .returned v ∧ Q_rm_addp2 Z o a ka mc f xe0 xe1 h0 n0 v U'.heap L ∧ FrameEnd U ou U' L ({ frames := 0, cells := 0, slots := 0, locals := 0 } : Room).cells ({ frames := 0, cells := 0, slots := 0, locals := 0 } : Room).slots) := by
  refine MetFree.of_bodySF (plainFor_of_name own_pn4) hisR ?_
  intro p e s m args below meth c s₁ Bd hml0 hP hK
  obtain ⟨rfl, hZ, hh⟩ := hP
  have hx := Bd.exec
  have hby := Bd.bytes
  have hml : c.maxLocals = 4 := hml0
  have hown : s.vm.findClass "java/util/ArrayList" = some m.cls := findClass_of_methodNamed Bd.named
  have hnm := (name_of_methodNamed Bd.named Bd.method).1
  have X0 : Stand p l e ({ frames := 0, cells := 0, slots := 0, locals := 0 } : Room) s m #[(.ref o), (.ref f), (.ref a), (.int (2 : Int32))] below meth c s₁ [] 0 0 := Stand.of_body Bd
  have e0 : s₁.heap = h0 := by rw [← hh, Bd.state]; rfl
  have N0 := Fr.nil n0
  have K0 := Keep.refl h0 [o, a]
  show own_Go p e below (fun o u L => FrameEnd s o u L ({ frames := 0, cells := 0, slots := 0, locals := 0 } : Room).cells ({ frames := 0, cells := 0, slots := 0, locals := 0 } : Room).slots) (Q_rm_addp2 Z o a ka mc f xe0 xe1 h0 n0) (s₁.setTop (entryFrame m #[(.ref o), (.ref f), (.ref a), (.int (2 : Int32))] 4))
  rw [own_ef_rm_addp2 m o f a]
  show own_Go _ _ _ _ _ (State.setTop _ (mkF _ 0 #[.val (.ref o), .val (.ref f), .val (.ref a), .val (.int (2 : Int32))] []))
  refine own_iloadN X0 hx 1 rfl (hb hby own_d22_0) rfl ?_
  refine own_aloadN X0 hx 2 rfl (hb hby own_d22_1) rfl rfl ?_
  refine own_len X0 hx hZ e0 A1 3 rfl (hb hby own_d22_2) ?_
  refine own_icmpYes X0 hx 11 (hb hby own_d22_3) (by decide) (by decide) rfl ?_
  refine own_aloadN X0 hx 12 rfl (hb hby own_d22_11) rfl rfl ?_
  refine own_iloadN X0 hx 13 rfl (hb hby own_d22_12) rfl ?_
  refine own_aloadN X0 hx 14 rfl (hb hby own_d22_13) rfl rfl ?_
  refine own_stR X0 hx hZ e0 A1 rfl O1 (Ins.of_exa E2 (own_hw hw 153 rfl)) rfl ⟨by decide, by decide⟩ 2 rfl (Nat.le_of_ble_eq_true rfl) [(.ref xe0), (.ref xe1), (.ref f), .null, .null, .null, .null, .null, .null, .null] rfl 15 rfl (hb hby own_d22_14) fun T357 h357 X357 e357 W357 f358 => ?_
  have f359 := E1.wr W357
  have f360 := F1.other W357 (Or.inl ne_oa)
  have f361 := F2.other W357 (Or.inl ne_oa)
  have f362 := F3.other W357 (Or.inl ne_oa)
  have f363 := E2.wr W357
  have z364 := Nat.le_trans Z0 (Keep.of_wr W357).1
  have K365 := K0.wr W357 (Or.inl (List.mem_of_getElem? (i := 1) rfl))
  have N366 := Fr.snoc X357 N0 g_a
  refine own_aloadN X357 hx 16 rfl (hb hby own_d22_15) rfl rfl ?_
  refine own_iloadN X357 hx 17 rfl (hb hby own_d22_16) rfl ?_
  refine own_iconst X357 hx 18 rfl (hb hby own_d22_17) (1 : Int32) rfl ?_
  refine own_iadd X357 hx 19 rfl (hb hby own_d22_18) (3 : Int32) rfl ?_
  refine own_putF X357 hx hZ (host := "") hown (Or.inl (own_hw hw 130 rfl)) Via.refl e357 f362 f359 (Or.inl (own_hw hw 131 rfl)) (own_hw hw 54 rfl) (ty := .int) (by decide) rfl rfl 22 rfl (hb hby own_d22_19) fun T367 h367 X367 e367 W367 => ?_
  have f368 := f359.wr W367
  have f369 := f360.other W367 (Or.inr (slot_ne (Or.inl (own_hw hw 73 rfl)) (Or.inl (own_hw hw 131 rfl)) (by decide) (t := .int) (t' := .int) (by decide) (by decide)))
  have f370 := f361.other W367 (Or.inr (slot_ne (Or.inl (own_hw hw 76 rfl)) (Or.inl (own_hw hw 131 rfl)) (by decide) (t := (.array (.object "java/lang/Object"))) (t' := .int) (by decide) (by decide)))
  have f371 := f363.wr W367
  have f372 := f358.other W367 (Ne.symm ne_oa)
  have z373 := Nat.le_trans z364 (Keep.of_wr W367).1
  have K374 := K365.wr W367 (Or.inl (List.mem_of_getElem? (i := 0) rfl))
  have f375 := f362.same W367
  have N376 := Fr.snoc X367 N366 g_o
  refine own_ret X367 none (fun _ => rfl) Bd.notSynchronized (by decide) (by decide) ?_ (fun fs hr => X367.returnOut hx Bd.returns (hb hby own_d22_22) hr)
  show Q_rm_addp2 Z o a ka mc f xe0 xe1 h0 n0 _ T367.heap _
  rw [e367]
  exact ⟨rfl, N376, K374, f368, f369, f370, f375, f372⟩
theorem own_ef_rm_add2 (m : MethodId) (o : Addr) (f : Addr) : entryFrame m #[(.ref o), (.ref f)] 2 = mkF m 0 #[.val (.ref o), .val (.ref f)] [] := by first | (simp [entryFrame, mkF, argsToLocals, Value.category]; done) | rfl
def Q_rm_add2 (Z : State) (o : Addr) (a : Addr) (ka : ClassId) (mc : Int32) (f : Addr) (xe0 : Addr) (xe1 : Addr) (h0 : Heap) (n0 : Nat) (v : Option Value) (h : Heap) (L : List Loc) : Prop := v = some (.int (1 : Int32)) ∧ Fr n0 L ∧ Keep h0 h [o, a] ∧ Exa Z h o "java/util/ArrayList" ∧ Fld Z h o "java/util/AbstractList" "modCount" "I" (.int (mc + (1 : Int32))) ∧ Fld Z h o "java/util/ArrayList" "elementData" "[Ljava/lang/Object;" (.ref a) ∧ Fld Z h o "java/util/ArrayList" "size" "I" (.int (3 : Int32)) ∧ Arv Z h a ka (.object "java/lang/Object") (10 : Int32) [(.ref xe0), (.ref xe1), (.ref f), .null, .null, .null, .null, .null, .null, .null] .null
set_option maxRecDepth 65536 in
set_option maxHeartbeats 40000000 in
theorem rm_add2 (l : Launch) (Z : State) (a0 : Array Value) (hw : ∀ d ∈ tables_1, d.before a0 Z = true) (ws : List Jvm.Cond) (o : Addr) (a : Addr) (ka : ClassId) (mc : Int32) (f : Addr) (xe0 : Addr) (xe1 : Addr) (h0 : Heap) (n0 : Nat) (Z0 : n0 ≤ h0.size) (E1 : Exa Z h0 o "java/util/ArrayList") (F1 : Fld Z h0 o "java/util/AbstractList" "modCount" "I" (.int mc)) (F2 : Fld Z h0 o "java/util/ArrayList" "elementData" "[Ljava/lang/Object;" (.ref a)) (F3 : Fld Z h0 o "java/util/ArrayList" "size" "I" (.int (2 : Int32))) (A1 : Arv Z h0 a ka (.object "java/lang/Object") (10 : Int32) [(.ref xe0), (.ref xe1), .null, .null, .null, .null, .null, .null, .null, .null] .null) (O1 : Ovr Z ka "java/lang/Object") (g_o : n0 ≤ o) (g_a : n0 ≤ a) (ne_oa : o ≠ a) (E2 : Exa Z h0 f "com/example/measured_reasoner/measuredreasoner/Summary$Field") :
    MetFree l (⟨"java/util/ArrayList", "add", "(Ljava/lang/Object;)Z"⟩ : MethodName) (head1 (Jvm.Cond.code (⟨"java/util/ArrayList", "add", "(Ljava/lang/Object;)Z"⟩ : MethodName) jdk_38_method_25_code 2 (some .boolean) :: ws) ({ frames := 1, cells := 0, slots := 0, locals := 20 } : Room)) (fun aa U => aa = #[(.ref o), (.ref f)] ∧ Z.Warmed39 U.vm ∧ U.heap = h0) (fun _ _ _ _ _ => True) (fun _ U ou U' => ∃ v L, ou = .returned v ∧ Q_rm_add2 Z o a ka mc f xe0 xe1 h0 n0 v U'.heap L ∧ FrameEnd U ou U' L ({ frames := 1, cells := 0, slots := 0, locals := 20 } : Room).cells ({ frames := 1, cells := 0, slots := 0, locals := 20 } : Room).slots) := by
  refine MetFree.of_bodySF (plainFor_of_name own_pn4) hisR ?_
  intro p e s m args below meth c s₁ Bd hml0 hP hK
  obtain ⟨rfl, hZ, hh⟩ := hP
  have hx := Bd.exec
  have hby := Bd.bytes
  have hml : c.maxLocals = 2 := hml0
  have hown : s.vm.findClass "java/util/ArrayList" = some m.cls := findClass_of_methodNamed Bd.named
  have hnm := (name_of_methodNamed Bd.named Bd.method).1
  have X0 : Stand p l e ({ frames := 1, cells := 0, slots := 0, locals := 20 } : Room) s m #[(.ref o), (.ref f)] below meth c s₁ [] 0 0 := Stand.of_body Bd
  have e0 : s₁.heap = h0 := by rw [← hh, Bd.state]; rfl
  have N0 := Fr.nil n0
  have K0 := Keep.refl h0 [o, a]
  show own_Go p e below (fun o u L => FrameEnd s o u L ({ frames := 1, cells := 0, slots := 0, locals := 20 } : Room).cells ({ frames := 1, cells := 0, slots := 0, locals := 20 } : Room).slots) (Q_rm_add2 Z o a ka mc f xe0 xe1 h0 n0) (s₁.setTop (entryFrame m #[(.ref o), (.ref f)] 2))
  rw [own_ef_rm_add2 m o f]
  show own_Go _ _ _ _ _ (State.setTop _ (mkF _ 0 #[.val (.ref o), .val (.ref f)] []))
  refine own_aloadN X0 hx 1 rfl (hb hby own_d21_0) rfl rfl ?_
  refine own_dup X0 hx 2 rfl (hb hby own_d21_1) rfl ?_
  refine own_getF X0 hx hZ (host := "") hown (Or.inl (own_hw hw 128 rfl)) (Via.of (own_hw hw 129 rfl)) e0 F1 5 rfl (hb hby own_d21_2) fun T377 X377 e377 => ?_
  refine own_iconst X377 hx 6 rfl (hb hby own_d21_5) (1 : Int32) rfl ?_
  refine own_iadd X377 hx 7 rfl (hb hby own_d21_6) _ rfl ?_
  refine own_putF X377 hx hZ (host := "") hown (Or.inl (own_hw hw 128 rfl)) (Via.of (own_hw hw 129 rfl)) e377 F1 E1 (Or.inl (own_hw hw 73 rfl)) (own_hw hw 54 rfl) (ty := .int) (by decide) rfl rfl 10 rfl (hb hby own_d21_7) fun T378 h378 X378 e378 W378 => ?_
  have f379 := E1.wr W378
  have f380 := F2.other W378 (Or.inr (slot_ne (Or.inl (own_hw hw 76 rfl)) (Or.inl (own_hw hw 73 rfl)) (by decide) (t := (.array (.object "java/lang/Object"))) (t' := .int) (by decide) (by decide)))
  have f381 := F3.other W378 (Or.inr (slot_ne (Or.inl (own_hw hw 131 rfl)) (Or.inl (own_hw hw 73 rfl)) (by decide) (t := .int) (t' := .int) (by decide) (by decide)))
  have f382 := A1.other W378 (Ne.symm ne_oa)
  have f383 := E2.wr W378
  have z384 := Nat.le_trans Z0 (Keep.of_wr W378).1
  have K385 := K0.wr W378 (Or.inl (List.mem_of_getElem? (i := 0) rfl))
  have f386 := F1.same W378
  have N387 := Fr.snoc X378 N0 g_o
  refine own_aloadN X378 hx 11 rfl (hb hby own_d21_10) rfl rfl ?_
  refine own_aloadN X378 hx 12 rfl (hb hby own_d21_11) rfl rfl ?_
  refine own_aloadN X378 hx 13 rfl (hb hby own_d21_12) rfl rfl ?_
  refine own_getF X378 hx hZ (host := "") hown (Or.inl (own_hw hw 75 rfl)) Via.refl e378 f380 16 rfl (hb hby own_d21_13) fun T388 X388 e388 => ?_
  refine own_aloadN X388 hx 17 rfl (hb hby own_d21_16) rfl rfl ?_
  refine own_getF X388 hx hZ (host := "") hown (Or.inl (own_hw hw 130 rfl)) Via.refl e388 f381 20 rfl (hb hby own_d21_17) fun T389 X389 e389 => ?_
  refine own_private X389 hx hZ (y := (⟨"java/util/ArrayList", "add", "(Ljava/lang/Object;[Ljava/lang/Object;I)V"⟩ : MethodName)) (z := (⟨"java/util/ArrayList", "add", "(Ljava/lang/Object;[Ljava/lang/Object;I)V"⟩ : MethodName)) hown (own_hw hw 132 rfl) (own_hw hw 133 rfl) rfl (own_hw hw 135 rfl) (own_hw hw 134 rfl) (a := o) f379 (by decide) (rm_addp2 l Z a0 hw [] o a ka (mc + (1 : Int32)) f xe0 xe1 h378 n0 z384 f379 f386 f380 f381 f382 O1 g_o g_a ne_oa f383) (own_hw hw 136 rfl) (own_hw hw 55 rfl) (by decide) e389 (by rw [hml]; rfl) [(.ref f), (.ref a), (.int (2 : Int32))] 0 (by decide) (Nat.le_of_eq rfl) (by decide) (by decide) (lenOf own_pd4 rfl) rfl rfl 23 rfl (hb hby own_d21_20) fun v390 T390 Lc390 X390 hQ390 => ?_
  obtain ⟨rfl, Nq390, Kq390, f391, f392, f393, f394, f395⟩ := hQ390
  have N396 := Fr.app N387 Nq390
  have f397 := f379.keep Kq390
  have f401 := f383.keep Kq390
  have z403 := Nat.le_trans z384 Kq390.1
  have K404 := K385.trans Kq390 (allS (Or.inl (List.mem_of_getElem? (i := 0) rfl)) (allS (Or.inl (List.mem_of_getElem? (i := 1) rfl)) all0))
  show own_Go _ _ _ _ _ (State.setTop _ (mkF _ 23 _ []))
  refine own_iconst X390 hx 24 rfl (hb hby own_d21_23) (1 : Int32) rfl ?_
  refine own_ret X390 (some (.int (1 : Int32))) (fun h => by rw [Bd.returns] at h; cases h) Bd.notSynchronized (by decide) (by decide) ?_ (fun fs hr => retN X390 hx (t := .boolean) Bd.returns (by simp) (hb hby own_d21_24) hr)
  show Q_rm_add2 Z o a ka mc f xe0 xe1 h0 n0 _ T390.heap _
  exact ⟨rfl, N396, K404, f391, f392, f393, f394, f395⟩
theorem own_pn6 : plainName "java/lang/Long" = true := by first | (simp [plainName, overriddenIn]; done) | decide +kernel
theorem own_ef_rm_longi (m : MethodId) (o : Addr) (y1 : Int64) : entryFrame m #[(.ref o), (.long y1)] 3 = mkF m 0 #[.val (.ref o), .val (.long y1), .second] [] := by first | (simp [entryFrame, mkF, argsToLocals, Value.category]; done) | rfl
def Q_rm_longi (Z : State) (o : Addr) (y1 : Int64) (h0 : Heap) (n0 : Nat) (v : Option Value) (h : Heap) (L : List Loc) : Prop := v = none ∧ Fr n0 L ∧ Keep h0 h [o] ∧ Exa Z h o "java/lang/Long" ∧ Fld Z h o "java/lang/Long" "value" "J" (.long y1)
theorem own_d45_0 : decode jdk_35_method_26_code 0 = .ok (.aload_n 0, 1) := by decide +kernel
theorem own_d45_1 : decode jdk_35_method_26_code 1 = .ok (.invokespecial 270, 3) := by decide +kernel
theorem own_d45_4 : decode jdk_35_method_26_code 4 = .ok (.aload_n 0, 1) := by decide +kernel
theorem own_d45_5 : decode jdk_35_method_26_code 5 = .ok (.lload_n 1, 1) := by decide +kernel
theorem own_d45_6 : decode jdk_35_method_26_code 6 = .ok (.putfield 273, 3) := by decide +kernel
theorem own_d45_9 : decode jdk_35_method_26_code 9 = .ok (.return_, 1) := by decide +kernel
set_option maxRecDepth 65536 in
set_option maxHeartbeats 40000000 in
theorem rm_longi (l : Launch) (Z : State) (a0 : Array Value) (hw : ∀ d ∈ tables_1, d.before a0 Z = true) (ws : List Jvm.Cond) (o : Addr) (y1 : Int64) (h0 : Heap) (n0 : Nat) (Z0 : n0 ≤ h0.size) (E1 : Exa Z h0 o "java/lang/Long") (F_value : Fld Z h0 o "java/lang/Long" "value" "J" (.long (0 : Int64))) (g_o : n0 ≤ o) :
    MetFree l (⟨"java/lang/Long", "<init>", "(J)V"⟩ : MethodName) (head1 (Jvm.Cond.code (⟨"java/lang/Long", "<init>", "(J)V"⟩ : MethodName) jdk_35_method_26_code 3 none :: ws) ({ frames := 2, cells := 0, slots := 0, locals := 30 } : Room)) (fun aa U => aa = #[(.ref o), (.long y1)] ∧ Z.Warmed39 U.vm ∧ U.heap = h0) (fun _ _ _ _ _ => True) (fun _ U ou U' => ∃ v L, ou = .returned v ∧ Q_rm_longi Z o y1 h0 n0 v U'.heap L ∧ FrameEnd U ou U' L ({ frames := 2, cells := 0, slots := 0, locals := 30 } : Room).cells ({ frames := 2, cells := 0, slots := 0, locals := 30 } : Room).slots) := by
  refine MetFree.of_bodySF (plainFor_of_name own_pn6) hisR ?_
  intro p e s m args below meth c s₁ Bd hml0 hP hK
  obtain ⟨rfl, hZ, hh⟩ := hP
  have hx := Bd.exec
  have hby := Bd.bytes
  have hml : c.maxLocals = 3 := hml0
  have hown : s.vm.findClass "java/lang/Long" = some m.cls := findClass_of_methodNamed Bd.named
  have hnm := (name_of_methodNamed Bd.named Bd.method).1
  have X0 : Stand p l e ({ frames := 2, cells := 0, slots := 0, locals := 30 } : Room) s m #[(.ref o), (.long y1)] below meth c s₁ [] 0 0 := Stand.of_body Bd
  have e0 : s₁.heap = h0 := by rw [← hh, Bd.state]; rfl
  have N0 := Fr.nil n0
  have K0 := Keep.refl h0 [o]
  show own_Go p e below (fun o u L => FrameEnd s o u L ({ frames := 2, cells := 0, slots := 0, locals := 30 } : Room).cells ({ frames := 2, cells := 0, slots := 0, locals := 30 } : Room).slots) (Q_rm_longi Z o y1 h0 n0) (s₁.setTop (entryFrame m #[(.ref o), (.long y1)] 3))
  rw [own_ef_rm_longi m o y1]
  show own_Go _ _ _ _ _ (State.setTop _ (mkF _ 0 #[.val (.ref o), .val (.long y1), .second] []))
  refine own_aloadN X0 hx 1 rfl (hb hby own_d45_0) rfl rfl ?_
  refine own_special X0 hx hZ (y := (⟨"java/lang/Number", "<init>", "()V"⟩ : MethodName)) hown rfl (own_hw hw 296 rfl) (own_hw hw 98 rfl) (a := o) (by decide) rfl (rm_num l Z a0 hw [] o h0 n0 Z0 ) (own_hw hw 102 rfl) (own_hw hw 101 rfl) (by decide) e0 (by rw [hml]; rfl) [] 0 (by decide) (Nat.le_of_eq rfl) (by decide) (by decide) (lenOf own_pd0 rfl) rfl rfl 4 rfl (hb hby own_d45_1) fun v405 T405 Lc405 X405 hQ405 => ?_
  obtain ⟨rfl, Nq405, e405⟩ := hQ405
  have N406 := Fr.app N0 Nq405
  show own_Go _ _ _ _ _ (State.setTop _ (mkF _ 4 _ []))
  refine own_aloadN X405 hx 5 rfl (hb hby own_d45_4) rfl rfl ?_
  refine own_lloadN X405 hx 6 rfl (hb hby own_d45_5) rfl ?_
  refine own_putF X405 hx hZ (host := "") hown (Or.inl (own_hw hw 289 rfl)) Via.refl e405 F_value E1 (Or.inr ⟨(own_hw hw 290 rfl), rfl, hnm⟩) (own_hw hw 292 rfl) (ty := .long) (by decide) rfl rfl 9 rfl (hb hby own_d45_6) fun T407 h407 X407 e407 W407 => ?_
  have f408 := E1.wr W407
  have z409 := Nat.le_trans Z0 (Keep.of_wr W407).1
  have K410 := K0.wr W407 (Or.inl (List.mem_of_getElem? (i := 0) rfl))
  have f411 := F_value.same W407
  have N412 := Fr.snoc X407 N406 g_o
  refine own_ret X407 none (fun _ => rfl) Bd.notSynchronized (by decide) (by decide) ?_ (fun fs hr => X407.returnOut hx Bd.returns (hb hby own_d45_9) hr)
  show Q_rm_longi Z o y1 h0 n0 _ T407.heap _
  rw [e407]
  exact ⟨rfl, N412, K410, f408, f411⟩
theorem own_pn7 : plainName "java/lang/Double" = true := by first | (simp [plainName, overriddenIn]; done) | decide +kernel
theorem own_ef_rm_dbli (m : MethodId) (o : Addr) (y1 : UInt64) : entryFrame m #[(.ref o), (.double y1)] 3 = mkF m 0 #[.val (.ref o), .val (.double y1), .second] [] := by first | (simp [entryFrame, mkF, argsToLocals, Value.category]; done) | rfl
def Q_rm_dbli (Z : State) (o : Addr) (y1 : UInt64) (h0 : Heap) (n0 : Nat) (v : Option Value) (h : Heap) (L : List Loc) : Prop := v = none ∧ Fr n0 L ∧ Keep h0 h [o] ∧ Exa Z h o "java/lang/Double" ∧ Fld Z h o "java/lang/Double" "value" "D" (.double y1)
theorem own_d17_0 : decode jdk_117_method_9_code 0 = .ok (.aload_n 0, 1) := by decide +kernel
theorem own_d17_1 : decode jdk_117_method_9_code 1 = .ok (.invokespecial 113, 3) := by decide +kernel
theorem own_d17_4 : decode jdk_117_method_9_code 4 = .ok (.aload_n 0, 1) := by decide +kernel
theorem own_d17_5 : decode jdk_117_method_9_code 5 = .ok (.dload_n 1, 1) := by decide +kernel
theorem own_d17_6 : decode jdk_117_method_9_code 6 = .ok (.putfield 118, 3) := by decide +kernel
theorem own_d17_9 : decode jdk_117_method_9_code 9 = .ok (.return_, 1) := by decide +kernel
set_option maxRecDepth 65536 in
set_option maxHeartbeats 40000000 in
theorem rm_dbli (l : Launch) (Z : State) (a0 : Array Value) (hw : ∀ d ∈ tables_1, d.before a0 Z = true) (ws : List Jvm.Cond) (o : Addr) (y1 : UInt64) (h0 : Heap) (n0 : Nat) (Z0 : n0 ≤ h0.size) (E1 : Exa Z h0 o "java/lang/Double") (F_value : Fld Z h0 o "java/lang/Double" "value" "D" (.double (0 : UInt64))) (g_o : n0 ≤ o) :
    MetFree l (⟨"java/lang/Double", "<init>", "(D)V"⟩ : MethodName) (head1 (Jvm.Cond.code (⟨"java/lang/Double", "<init>", "(D)V"⟩ : MethodName) jdk_117_method_9_code 3 none :: ws) ({ frames := 2, cells := 0, slots := 0, locals := 30 } : Room)) (fun aa U => aa = #[(.ref o), (.double y1)] ∧ Z.Warmed39 U.vm ∧ U.heap = h0) (fun _ _ _ _ _ => True) (fun _ U ou U' => ∃ v L, ou = .returned v ∧ Q_rm_dbli Z o y1 h0 n0 v U'.heap L ∧ FrameEnd U ou U' L ({ frames := 2, cells := 0, slots := 0, locals := 30 } : Room).cells ({ frames := 2, cells := 0, slots := 0, locals := 30 } : Room).slots) := by
  refine MetFree.of_bodySF (plainFor_of_name own_pn7) hisR ?_
  intro p e s m args below meth c s₁ Bd hml0 hP hK
  obtain ⟨rfl, hZ, hh⟩ := hP
  have hx := Bd.exec
  have hby := Bd.bytes
  have hml : c.maxLocals = 3 := hml0
  have hown : s.vm.findClass "java/lang/Double" = some m.cls := findClass_of_methodNamed Bd.named
  have hnm := (name_of_methodNamed Bd.named Bd.method).1
  have X0 : Stand p l e ({ frames := 2, cells := 0, slots := 0, locals := 30 } : Room) s m #[(.ref o), (.double y1)] below meth c s₁ [] 0 0 := Stand.of_body Bd
  have e0 : s₁.heap = h0 := by rw [← hh, Bd.state]; rfl
  have N0 := Fr.nil n0
  have K0 := Keep.refl h0 [o]
  show own_Go p e below (fun o u L => FrameEnd s o u L ({ frames := 2, cells := 0, slots := 0, locals := 30 } : Room).cells ({ frames := 2, cells := 0, slots := 0, locals := 30 } : Room).slots) (Q_rm_dbli Z o y1 h0 n0) (s₁.setTop (entryFrame m #[(.ref o), (.double y1)] 3))
  rw [own_ef_rm_dbli m o y1]
  show own_Go _ _ _ _ _ (State.setTop _ (mkF _ 0 #[.val (.ref o), .val (.double y1), .second] []))
  refine own_aloadN X0 hx 1 rfl (hb hby own_d17_0) rfl rfl ?_
  refine own_special X0 hx hZ (y := (⟨"java/lang/Number", "<init>", "()V"⟩ : MethodName)) hown rfl (own_hw hw 97 rfl) (own_hw hw 98 rfl) (a := o) (by decide) rfl (rm_num l Z a0 hw [] o h0 n0 Z0 ) (own_hw hw 102 rfl) (own_hw hw 101 rfl) (by decide) e0 (by rw [hml]; rfl) [] 0 (by decide) (Nat.le_of_eq rfl) (by decide) (by decide) (lenOf own_pd0 rfl) rfl rfl 4 rfl (hb hby own_d17_1) fun v413 T413 Lc413 X413 hQ413 => ?_
  obtain ⟨rfl, Nq413, e413⟩ := hQ413
  have N414 := Fr.app N0 Nq413
  show own_Go _ _ _ _ _ (State.setTop _ (mkF _ 4 _ []))
  refine own_aloadN X413 hx 5 rfl (hb hby own_d17_4) rfl rfl ?_
  refine own_dloadN X413 hx 6 rfl (hb hby own_d17_5) rfl ?_
  refine own_putF X413 hx hZ (host := "") hown (Or.inl (own_hw hw 104 rfl)) Via.refl e413 F_value E1 (Or.inr ⟨(own_hw hw 105 rfl), rfl, hnm⟩) (own_hw hw 92 rfl) (ty := .double) (by decide) rfl rfl 9 rfl (hb hby own_d17_6) fun T415 h415 X415 e415 W415 => ?_
  have f416 := E1.wr W415
  have z417 := Nat.le_trans Z0 (Keep.of_wr W415).1
  have K418 := K0.wr W415 (Or.inl (List.mem_of_getElem? (i := 0) rfl))
  have f419 := F_value.same W415
  have N420 := Fr.snoc X415 N414 g_o
  refine own_ret X415 none (fun _ => rfl) Bd.notSynchronized (by decide) (by decide) ?_ (fun fs hr => X415.returnOut hx Bd.returns (hb hby own_d17_9) hr)
  show Q_rm_dbli Z o y1 h0 n0 _ T415.heap _
  rw [e415]
  exact ⟨rfl, N420, K418, f416, f419⟩
theorem own_ef_rm_dblv (m : MethodId) (y1 : UInt64) : entryFrame m #[(.double y1)] 2 = mkF m 0 #[.val (.double y1), .second] [] := by first | (simp [entryFrame, mkF, argsToLocals, Value.category]; done) | rfl
def Q_rm_dblv (Z : State) (y1 : UInt64) (h0 : Heap) (n0 : Nat) (v : Option Value) (h : Heap) (L : List Loc) : Prop := ∃ (r : Addr), v = some (.ref r) ∧ Fr n0 L ∧ Keep h0 h [] ∧ (r < n0 ∨ h0.size ≤ r) ∧ Exa Z h r "java/lang/Double" ∧ Fld Z h r "java/lang/Double" "value" "D" (.double y1)
theorem own_d16_0 : decode jdk_117_method_4_code 0 = .ok (.new 1, 3) := by decide +kernel
theorem own_d16_3 : decode jdk_117_method_4_code 3 = .ok (.dup, 1) := by decide +kernel
theorem own_d16_4 : decode jdk_117_method_4_code 4 = .ok (.dload_n 0, 1) := by decide +kernel
theorem own_d16_5 : decode jdk_117_method_4_code 5 = .ok (.invokespecial 105, 3) := by decide +kernel
theorem own_pd5 : parseMethodDescriptor "(D)V" = some ⟨[.double], none⟩ := by decide +kernel
theorem own_d16_8 : decode jdk_117_method_4_code 8 = .ok (.areturn, 1) := by decide +kernel
set_option maxRecDepth 65536 in
set_option maxHeartbeats 40000000 in
theorem rm_dblv (l : Launch) (Z : State) (a0 : Array Value) (hw : ∀ d ∈ tables_1, d.before a0 Z = true) (ws : List Jvm.Cond) (y1 : UInt64) (h0 : Heap) (n0 : Nat) (Z0 : n0 ≤ h0.size)  :
    MetFree l (⟨"java/lang/Double", "valueOf", "(D)Ljava/lang/Double;"⟩ : MethodName) (head1 (Jvm.Cond.code (⟨"java/lang/Double", "valueOf", "(D)Ljava/lang/Double;"⟩ : MethodName) jdk_117_method_4_code 2 (some (.object "java/lang/Double")) :: ws) ({ frames := 3, cells := 1, slots := 1, locals := 45 } : Room)) (fun aa U => aa = #[(.double y1)] ∧ Z.Warmed39 U.vm ∧ U.heap = h0) (fun _ _ _ _ _ => True) (fun _ U ou U' => ∃ v L, ou = .returned v ∧ Q_rm_dblv Z y1 h0 n0 v U'.heap L ∧ FrameEnd U ou U' L ({ frames := 3, cells := 1, slots := 1, locals := 45 } : Room).cells ({ frames := 3, cells := 1, slots := 1, locals := 45 } : Room).slots) := by
  refine MetFree.of_bodySF (plainFor_of_name own_pn7) hisR ?_
  intro p e s m args below meth c s₁ Bd hml0 hP hK
  obtain ⟨rfl, hZ, hh⟩ := hP
  have hx := Bd.exec
  have hby := Bd.bytes
  have hml : c.maxLocals = 2 := hml0
  have hown : s.vm.findClass "java/lang/Double" = some m.cls := findClass_of_methodNamed Bd.named
  have hnm := (name_of_methodNamed Bd.named Bd.method).1
  have X0 : Stand p l e ({ frames := 3, cells := 1, slots := 1, locals := 45 } : Room) s m #[(.double y1)] below meth c s₁ [] 0 0 := Stand.of_body Bd
  have e0 : s₁.heap = h0 := by rw [← hh, Bd.state]; rfl
  have N0 := Fr.nil n0
  have K0 := Keep.refl h0 []
  show own_Go p e below (fun o u L => FrameEnd s o u L ({ frames := 3, cells := 1, slots := 1, locals := 45 } : Room).cells ({ frames := 3, cells := 1, slots := 1, locals := 45 } : Room).slots) (Q_rm_dblv Z y1 h0 n0) (s₁.setTop (entryFrame m #[(.double y1)] 2))
  rw [own_ef_rm_dblv m y1]
  show own_Go _ _ _ _ _ (State.setTop _ (mkF _ 0 #[.val (.double y1), .second] []))
  refine own_new X0 hx hZ hown (own_hw hw 91 rfl) (own_hw hw 92 rfl) (own_hw hw 89 rfl) e0 3 rfl (hb hby own_d16_0) (by decide) (by decide) fun T421 h421 b421 g421 X421 e421 E421 A421 D421 => ?_
  have ge422 : n0 ≤ b421 := Nat.le_trans Z0 (Nat.le_of_eq g421.symm)
  have sz423 : h0.size ≤ b421 := Nat.le_trans K0.1 (Nat.le_of_eq g421.symm)
  have z424 := Nat.le_trans Z0 E421.1
  have K425 := K0.ext E421
  have f426 : Fld Z h421 b421 "java/lang/Double" "value" "D" (.double (0 : UInt64)) := D421 (Or.inr (own_hw hw 105 rfl)) (ty := .double) (by decide)
  refine own_dup X421 hx 4 rfl (hb hby own_d16_3) rfl ?_
  refine own_dloadN X421 hx 5 rfl (hb hby own_d16_4) rfl ?_
  refine own_special X421 hx hZ (y := (⟨"java/lang/Double", "<init>", "(D)V"⟩ : MethodName)) hown rfl (own_hw hw 93 rfl) (own_hw hw 94 rfl) (a := b421) (by decide) rfl (rm_dbli l Z a0 hw [] b421 y1 h421 n0 z424 A421 f426 ge422) (own_hw hw 96 rfl) (own_hw hw 89 rfl) (by decide) e421 (by rw [hml]; rfl) [(.double y1)] 1 (by decide) (Nat.le_of_eq rfl) (by decide) (by decide) (lenOf own_pd5 rfl) rfl rfl 8 rfl (hb hby own_d16_5) fun v427 T427 Lc427 X427 hQ427 => ?_
  obtain ⟨rfl, Nq427, Kq427, f428, f429⟩ := hQ427
  have N430 := Fr.app N0 Nq427
  have f431 := A421.keep Kq427
  have z433 := Nat.le_trans z424 Kq427.1
  have K434 := K425.trans Kq427 (allS (Or.inr sz423) all0)
  show own_Go _ _ _ _ _ (State.setTop _ (mkF _ 8 _ [(.ref b421)]))
  refine own_ret X427 (some (.ref b421)) (fun h => by rw [Bd.returns] at h; cases h) Bd.notSynchronized (by decide) (by decide) ?_ (fun fs hr => own_retR X427 hx Bd.returns rfl rfl (hb hby own_d16_8) hr)
  show Q_rm_dblv Z y1 h0 n0 _ T427.heap _
  exact ⟨b421, rfl, N430, K434, (Or.inr sz423), f428, f429⟩
theorem own_ef_rm_longv (m : MethodId) (y1 : Int64) : entryFrame m #[(.long y1)] 3 = mkF m 0 #[.val (.long y1), .second, .unset] [] := by first | (simp [entryFrame, mkF, argsToLocals, Value.category]; done) | rfl
def Q_rm_longv (Z : State) (y1 : Int64) (h0 : Heap) (n0 : Nat) (v : Option Value) (h : Heap) (L : List Loc) : Prop := ∃ (r : Addr), v = some (.ref r) ∧ Fr n0 L ∧ Keep h0 h [] ∧ (r < n0 ∨ h0.size ≤ r) ∧ Exa Z h r "java/lang/Long" ∧ Fld Z h r "java/lang/Long" "value" "J" (.long y1)
theorem own_d43_0 : decode jdk_35_method_24_code 0 = .ok (.sipush 128, 3) := by decide +kernel
theorem own_d43_3 : decode jdk_35_method_24_code 3 = .ok (.istore_n 2, 1) := by decide +kernel
theorem own_d43_4 : decode jdk_35_method_24_code 4 = .ok (.lload_n 0, 1) := by decide +kernel
theorem own_d43_5 : decode jdk_35_method_24_code 5 = .ok (.ldc2_w 230, 3) := by decide +kernel
theorem own_d43_8 : decode jdk_35_method_24_code 8 = .ok (.lcmp, 1) := by decide +kernel
theorem own_d43_9 : decode jdk_35_method_24_code 9 = .ok (.ifCond .lt 22, 3) := by decide +kernel
theorem own_d43_31 : decode jdk_35_method_24_code 31 = .ok (.new 1, 3) := by decide +kernel
theorem own_d43_34 : decode jdk_35_method_24_code 34 = .ok (.dup, 1) := by decide +kernel
theorem own_d43_35 : decode jdk_35_method_24_code 35 = .ok (.lload_n 0, 1) := by decide +kernel
theorem own_d43_36 : decode jdk_35_method_24_code 36 = .ok (.invokespecial 240, 3) := by decide +kernel
theorem own_pd6 : parseMethodDescriptor "(J)V" = some ⟨[.long], none⟩ := by decide +kernel
theorem own_d43_39 : decode jdk_35_method_24_code 39 = .ok (.areturn, 1) := by decide +kernel
theorem own_d43_12 : decode jdk_35_method_24_code 12 = .ok (.lload_n 0, 1) := by decide +kernel
theorem own_d43_13 : decode jdk_35_method_24_code 13 = .ok (.ldc2_w 232, 3) := by decide +kernel
theorem own_d43_16 : decode jdk_35_method_24_code 16 = .ok (.lcmp, 1) := by decide +kernel
theorem own_d43_17 : decode jdk_35_method_24_code 17 = .ok (.ifCond .gt 14, 3) := by decide +kernel
theorem own_d43_20 : decode jdk_35_method_24_code 20 = .ok (.getstatic 234, 3) := by decide +kernel
theorem own_d43_23 : decode jdk_35_method_24_code 23 = .ok (.lload_n 0, 1) := by decide +kernel
theorem own_d43_24 : decode jdk_35_method_24_code 24 = .ok (.l2i, 1) := by decide +kernel
theorem own_d43_25 : decode jdk_35_method_24_code 25 = .ok (.sipush 128, 3) := by decide +kernel
theorem own_d43_28 : decode jdk_35_method_24_code 28 = .ok (.iadd, 1) := by decide +kernel
theorem own_d43_29 : decode jdk_35_method_24_code 29 = .ok (.aaload, 1) := by decide +kernel
theorem own_d43_30 : decode jdk_35_method_24_code 30 = .ok (.areturn, 1) := by decide +kernel
set_option maxRecDepth 65536 in
set_option maxHeartbeats 40000000 in
theorem rm_longv (l : Launch) (Z : State) (a0 : Array Value) (hw : ∀ d ∈ tables_1, d.before a0 Z = true) (ws : List Jvm.Cond) (y1 : Int64) (h0 : Heap) (n0 : Nat) (Z0 : n0 ≤ h0.size) (C1 : own_Ca Z h0 n0) :
    MetFree l (⟨"java/lang/Long", "valueOf", "(J)Ljava/lang/Long;"⟩ : MethodName) (head1 (Jvm.Cond.code (⟨"java/lang/Long", "valueOf", "(J)Ljava/lang/Long;"⟩ : MethodName) jdk_35_method_24_code 3 (some (.object "java/lang/Long")) :: ws) ({ frames := 3, cells := 1, slots := 1, locals := 45 } : Room)) (fun aa U => aa = #[(.long y1)] ∧ Z.Warmed39 U.vm ∧ U.heap = h0) (fun _ _ _ _ _ => True) (fun _ U ou U' => ∃ v L, ou = .returned v ∧ Q_rm_longv Z y1 h0 n0 v U'.heap L ∧ FrameEnd U ou U' L ({ frames := 3, cells := 1, slots := 1, locals := 45 } : Room).cells ({ frames := 3, cells := 1, slots := 1, locals := 45 } : Room).slots) := by
  refine MetFree.of_bodySF (plainFor_of_name own_pn6) hisR ?_
  intro p e s m args below meth c s₁ Bd hml0 hP hK
  obtain ⟨rfl, hZ, hh⟩ := hP
  have hx := Bd.exec
  have hby := Bd.bytes
  have hml : c.maxLocals = 3 := hml0
  have hown : s.vm.findClass "java/lang/Long" = some m.cls := findClass_of_methodNamed Bd.named
  have hnm := (name_of_methodNamed Bd.named Bd.method).1
  have X0 : Stand p l e ({ frames := 3, cells := 1, slots := 1, locals := 45 } : Room) s m #[(.long y1)] below meth c s₁ [] 0 0 := Stand.of_body Bd
  have e0 : s₁.heap = h0 := by rw [← hh, Bd.state]; rfl
  have N0 := Fr.nil n0
  have K0 := Keep.refl h0 []
  show own_Go p e below (fun o u L => FrameEnd s o u L ({ frames := 3, cells := 1, slots := 1, locals := 45 } : Room).cells ({ frames := 3, cells := 1, slots := 1, locals := 45 } : Room).slots) (Q_rm_longv Z y1 h0 n0) (s₁.setTop (entryFrame m #[(.long y1)] 3))
  rw [own_ef_rm_longv m y1]
  show own_Go _ _ _ _ _ (State.setTop _ (mkF _ 0 #[.val (.long y1), .second, .unset] []))
  refine own_sipush X0 hx 3 rfl (hb hby own_d43_0) (128 : Int32) rfl ?_
  refine own_istoreN X0 hx 4 rfl (hb hby own_d43_3) #[.val (.long y1), .second, .val (.int (128 : Int32))] rfl ?_
  refine own_lloadN X0 hx 5 rfl (hb hby own_d43_4) rfl ?_
  refine own_ldcJ X0 hx hZ hown (own_hw hw 278 rfl) 8 rfl (hb hby own_d43_5) ?_
  refine own_lcmp X0 hx 9 rfl (hb hby own_d43_8) _ rfl ?_
  by_cases hc435 : lcmpW y1 (-128 : Int64) < 0
  ·
    refine own_ifYes X0 hx 31 (hb hby own_d43_9) ((if0 _ _).trans (tlt hc435).1) (by decide) rfl ?_
    refine own_new X0 hx hZ hown (own_hw hw 291 rfl) (own_hw hw 292 rfl) (own_hw hw 276 rfl) e0 34 rfl (hb hby own_d43_31) (by decide) (by decide) fun T436 h436 b436 g436 X436 e436 E436 A436 D436 => ?_
    have ge437 : n0 ≤ b436 := Nat.le_trans Z0 (Nat.le_of_eq g436.symm)
    have sz438 : h0.size ≤ b436 := Nat.le_trans K0.1 (Nat.le_of_eq g436.symm)
    have f439 := C1.ext E436
    have z440 := Nat.le_trans Z0 E436.1
    have K441 := K0.ext E436
    have f442 : Fld Z h436 b436 "java/lang/Long" "value" "J" (.long (0 : Int64)) := D436 (Or.inr (own_hw hw 290 rfl)) (ty := .long) (by decide)
    refine own_dup X436 hx 35 rfl (hb hby own_d43_34) rfl ?_
    refine own_lloadN X436 hx 36 rfl (hb hby own_d43_35) rfl ?_
    refine own_special X436 hx hZ (y := (⟨"java/lang/Long", "<init>", "(J)V"⟩ : MethodName)) hown rfl (own_hw hw 293 rfl) (own_hw hw 294 rfl) (a := b436) (by decide) rfl (rm_longi l Z a0 hw [] b436 y1 h436 n0 z440 A436 f442 ge437) (own_hw hw 295 rfl) (own_hw hw 276 rfl) (by decide) e436 (by rw [hml]; rfl) [(.long y1)] 1 (by decide) (Nat.le_of_eq rfl) (by decide) (by decide) (lenOf own_pd6 rfl) rfl rfl 39 rfl (hb hby own_d43_36) fun v443 T443 Lc443 X443 hQ443 => ?_
    obtain ⟨rfl, Nq443, Kq443, f444, f445⟩ := hQ443
    have N446 := Fr.app N0 Nq443
    have f447 := A436.keep Kq443
    have z449 := Nat.le_trans z440 Kq443.1
    have K450 := K441.trans Kq443 (allS (Or.inr sz438) all0)
    have f451 := f439.keep Kq443 (allS ge437 all0) (nsS A436.nostat ns0)
    show own_Go _ _ _ _ _ (State.setTop _ (mkF _ 39 _ [(.ref b436)]))
    refine own_ret X443 (some (.ref b436)) (fun h => by rw [Bd.returns] at h; cases h) Bd.notSynchronized (by decide) (by decide) ?_ (fun fs hr => own_retR X443 hx Bd.returns rfl rfl (hb hby own_d43_39) hr)
    show Q_rm_longv Z y1 h0 n0 _ T443.heap _
    exact ⟨b436, rfl, N446, K450, (Or.inr sz438), f444, f445⟩
  ·
    refine own_ifNo X0 hx 12 rfl (hb hby own_d43_9) ((if0 _ _).trans (flt hc435).1) ?_
    refine own_lloadN X0 hx 13 rfl (hb hby own_d43_12) rfl ?_
    refine own_ldcJ X0 hx hZ hown (own_hw hw 279 rfl) 16 rfl (hb hby own_d43_13) ?_
    refine own_lcmp X0 hx 17 rfl (hb hby own_d43_16) _ rfl ?_
    by_cases hc452 : 0 < lcmpW y1 (127 : Int64)
    ·
      refine own_ifYes X0 hx 31 (hb hby own_d43_17) ((if0 _ _).trans (tlt hc452).2.2.1) (by decide) rfl ?_
      refine own_new X0 hx hZ hown (own_hw hw 291 rfl) (own_hw hw 292 rfl) (own_hw hw 276 rfl) e0 34 rfl (hb hby own_d43_31) (by decide) (by decide) fun T453 h453 b453 g453 X453 e453 E453 A453 D453 => ?_
      have ge454 : n0 ≤ b453 := Nat.le_trans Z0 (Nat.le_of_eq g453.symm)
      have sz455 : h0.size ≤ b453 := Nat.le_trans K0.1 (Nat.le_of_eq g453.symm)
      have f456 := C1.ext E453
      have z457 := Nat.le_trans Z0 E453.1
      have K458 := K0.ext E453
      have f459 : Fld Z h453 b453 "java/lang/Long" "value" "J" (.long (0 : Int64)) := D453 (Or.inr (own_hw hw 290 rfl)) (ty := .long) (by decide)
      refine own_dup X453 hx 35 rfl (hb hby own_d43_34) rfl ?_
      refine own_lloadN X453 hx 36 rfl (hb hby own_d43_35) rfl ?_
      refine own_special X453 hx hZ (y := (⟨"java/lang/Long", "<init>", "(J)V"⟩ : MethodName)) hown rfl (own_hw hw 293 rfl) (own_hw hw 294 rfl) (a := b453) (by decide) rfl (rm_longi l Z a0 hw [] b453 y1 h453 n0 z457 A453 f459 ge454) (own_hw hw 295 rfl) (own_hw hw 276 rfl) (by decide) e453 (by rw [hml]; rfl) [(.long y1)] 1 (by decide) (Nat.le_of_eq rfl) (by decide) (by decide) (lenOf own_pd6 rfl) rfl rfl 39 rfl (hb hby own_d43_36) fun v460 T460 Lc460 X460 hQ460 => ?_
      obtain ⟨rfl, Nq460, Kq460, f461, f462⟩ := hQ460
      have N463 := Fr.app N0 Nq460
      have f464 := A453.keep Kq460
      have z466 := Nat.le_trans z457 Kq460.1
      have K467 := K458.trans Kq460 (allS (Or.inr sz455) all0)
      have f468 := f456.keep Kq460 (allS ge454 all0) (nsS A453.nostat ns0)
      show own_Go _ _ _ _ _ (State.setTop _ (mkF _ 39 _ [(.ref b453)]))
      refine own_ret X460 (some (.ref b453)) (fun h => by rw [Bd.returns] at h; cases h) Bd.notSynchronized (by decide) (by decide) ?_ (fun fs hr => own_retR X460 hx Bd.returns rfl rfl (hb hby own_d43_39) hr)
      show Q_rm_longv Z y1 h0 n0 _ T460.heap _
      exact ⟨b453, rfl, N463, K467, (Or.inr sz455), f461, f462⟩
    ·
      refine own_ifNo X0 hx 20 rfl (hb hby own_d43_17) ((if0 _ _).trans (flt hc452).2.2.1) ?_
      obtain ⟨aC, kC, vs, fS, fA, lC, fC⟩ := C1
      obtain ⟨ii, hi, e1i, e2i, inb⟩ := own_onC hc435 hc452
      obtain ⟨yy, ly, ey, fE, fF⟩ := fC ii hi
      rw [e2i] at fF
      rw [← e1i] at ey
      refine own_getS X0 hx hZ (host := "") hown (Or.inl (own_hw hw 280 rfl)) Via.refl e0 fS 23 rfl (hb hby own_d43_20) fun T469 X469 e469 => ?_
      refine own_lloadN X469 hx 24 rfl (hb hby own_d43_23) rfl ?_
      refine own_l2i X469 hx 25 rfl (hb hby own_d43_24) _ rfl ?_
      refine own_sipush X469 hx 28 rfl (hb hby own_d43_25) (128 : Int32) rfl ?_
      refine own_iadd X469 hx 29 rfl (hb hby own_d43_28) _ rfl ?_
      refine own_ldR X469 hx hZ e469 fA rfl inb yy ey 30 rfl (hb hby own_d43_29) ?_
      refine own_ret X469 (some (.ref yy)) (fun h => by rw [Bd.returns] at h; cases h) Bd.notSynchronized (by decide) (by decide) ?_ (fun fs hr => own_retR X469 hx Bd.returns rfl rfl (hb hby own_d43_30) hr)
      show Q_rm_longv Z y1 h0 n0 _ T469.heap _
      rw [e469]
      exact ⟨yy, rfl, N0, K0, (Or.inl ly), fE, fF⟩
theorem own_pn8 : plainName "com/example/measured_reasoner/measuredreasoner/Summary$Field" = true := by first | (simp [plainName, overriddenIn]; done) | decide +kernel
theorem own_ef_rm_fdi (m : MethodId) (o : Addr) (nm : Addr) (va : Addr) : entryFrame m #[(.ref o), (.ref nm), (.ref va)] 3 = mkF m 0 #[.val (.ref o), .val (.ref nm), .val (.ref va)] [] := by first | (simp [entryFrame, mkF, argsToLocals, Value.category]; done) | rfl
def Q_rm_fdi (Z : State) (o : Addr) (nm : Addr) (va : Addr) (h0 : Heap) (n0 : Nat) (v : Option Value) (h : Heap) (L : List Loc) : Prop := v = none ∧ Fr n0 L ∧ Keep h0 h [o] ∧ Exa Z h o "com/example/measured_reasoner/measuredreasoner/Summary$Field" ∧ Fld Z h o "com/example/measured_reasoner/measuredreasoner/Summary$Field" "name" "Ljava/lang/String;" (.ref nm) ∧ Fld Z h o "com/example/measured_reasoner/measuredreasoner/Summary$Field" "value" "Ljava/lang/Number;" (.ref va)
theorem own_d19_0 : decode prog_20_method_1_code 0 = .ok (.aload_n 0, 1) := by decide +kernel
theorem own_d19_1 : decode prog_20_method_1_code 1 = .ok (.invokespecial 1, 3) := by decide +kernel
theorem own_d19_4 : decode prog_20_method_1_code 4 = .ok (.aload_n 0, 1) := by decide +kernel
theorem own_d19_5 : decode prog_20_method_1_code 5 = .ok (.aload_n 1, 1) := by decide +kernel
theorem own_d19_6 : decode prog_20_method_1_code 6 = .ok (.putfield 7, 3) := by decide +kernel
theorem own_d19_9 : decode prog_20_method_1_code 9 = .ok (.aload_n 0, 1) := by decide +kernel
theorem own_d19_10 : decode prog_20_method_1_code 10 = .ok (.aload_n 2, 1) := by decide +kernel
theorem own_d19_11 : decode prog_20_method_1_code 11 = .ok (.putfield 13, 3) := by decide +kernel
theorem own_d19_14 : decode prog_20_method_1_code 14 = .ok (.return_, 1) := by decide +kernel
set_option maxRecDepth 65536 in
set_option maxHeartbeats 40000000 in
theorem rm_fdi (l : Launch) (Z : State) (a0 : Array Value) (hw : ∀ d ∈ tables_1, d.before a0 Z = true) (ws : List Jvm.Cond) (o : Addr) (nm : Addr) (va : Addr) (h0 : Heap) (n0 : Nat) (Z0 : n0 ≤ h0.size) (E1 : Exa Z h0 o "com/example/measured_reasoner/measuredreasoner/Summary$Field") (F_name : Fld Z h0 o "com/example/measured_reasoner/measuredreasoner/Summary$Field" "name" "Ljava/lang/String;" .null) (F_value : Fld Z h0 o "com/example/measured_reasoner/measuredreasoner/Summary$Field" "value" "Ljava/lang/Number;" .null) (g_o : n0 ≤ o) :
    MetFree l (⟨"com/example/measured_reasoner/measuredreasoner/Summary$Field", "<init>", "(Ljava/lang/String;Ljava/lang/Number;)V"⟩ : MethodName) (head1 (Jvm.Cond.code (⟨"com/example/measured_reasoner/measuredreasoner/Summary$Field", "<init>", "(Ljava/lang/String;Ljava/lang/Number;)V"⟩ : MethodName) prog_20_method_1_code 3 none :: ws) ({ frames := 2, cells := 0, slots := 0, locals := 30 } : Room)) (fun aa U => aa = #[(.ref o), (.ref nm), (.ref va)] ∧ Z.Warmed39 U.vm ∧ U.heap = h0) (fun _ _ _ _ _ => True) (fun _ U ou U' => ∃ v L, ou = .returned v ∧ Q_rm_fdi Z o nm va h0 n0 v U'.heap L ∧ FrameEnd U ou U' L ({ frames := 2, cells := 0, slots := 0, locals := 30 } : Room).cells ({ frames := 2, cells := 0, slots := 0, locals := 30 } : Room).slots) := by
  refine MetFree.of_bodySF (plainFor_of_name own_pn8) hisR ?_
  intro p e s m args below meth c s₁ Bd hml0 hP hK
  obtain ⟨rfl, hZ, hh⟩ := hP
  have hx := Bd.exec
  have hby := Bd.bytes
  have hml : c.maxLocals = 3 := hml0
  have hown : s.vm.findClass "com/example/measured_reasoner/measuredreasoner/Summary$Field" = some m.cls := findClass_of_methodNamed Bd.named
  have hnm := (name_of_methodNamed Bd.named Bd.method).1
  have X0 : Stand p l e ({ frames := 2, cells := 0, slots := 0, locals := 30 } : Room) s m #[(.ref o), (.ref nm), (.ref va)] below meth c s₁ [] 0 0 := Stand.of_body Bd
  have e0 : s₁.heap = h0 := by rw [← hh, Bd.state]; rfl
  have N0 := Fr.nil n0
  have K0 := Keep.refl h0 [o]
  show own_Go p e below (fun o u L => FrameEnd s o u L ({ frames := 2, cells := 0, slots := 0, locals := 30 } : Room).cells ({ frames := 2, cells := 0, slots := 0, locals := 30 } : Room).slots) (Q_rm_fdi Z o nm va h0 n0) (s₁.setTop (entryFrame m #[(.ref o), (.ref nm), (.ref va)] 3))
  rw [own_ef_rm_fdi m o nm va]
  show own_Go _ _ _ _ _ (State.setTop _ (mkF _ 0 #[.val (.ref o), .val (.ref nm), .val (.ref va)] []))
  refine own_aloadN X0 hx 1 rfl (hb hby own_d19_0) rfl rfl ?_
  refine own_special X0 hx hZ (y := (⟨"java/lang/Record", "<init>", "()V"⟩ : MethodName)) hown rfl (own_hw hw 109 rfl) (own_hw hw 110 rfl) (a := o) (by decide) rfl (rm_rec l Z a0 hw [] o h0 n0 Z0 ) (own_hw hw 113 rfl) (own_hw hw 112 rfl) (by decide) e0 (by rw [hml]; rfl) [] 0 (by decide) (Nat.le_of_eq rfl) (by decide) (by decide) (lenOf own_pd0 rfl) rfl rfl 4 rfl (hb hby own_d19_1) fun v470 T470 Lc470 X470 hQ470 => ?_
  obtain ⟨rfl, Nq470, e470⟩ := hQ470
  have N471 := Fr.app N0 Nq470
  show own_Go _ _ _ _ _ (State.setTop _ (mkF _ 4 _ []))
  refine own_aloadN X470 hx 5 rfl (hb hby own_d19_4) rfl rfl ?_
  refine own_aloadN X470 hx 6 rfl (hb hby own_d19_5) rfl rfl ?_
  refine own_putF X470 hx hZ (host := "") hown (Or.inl (own_hw hw 115 rfl)) Via.refl e470 F_name E1 (Or.inr ⟨(own_hw hw 116 rfl), rfl, hnm⟩) (own_hw hw 85 rfl) (ty := (.object "java/lang/String")) (by decide) rfl rfl 9 rfl (hb hby own_d19_6) fun T472 h472 X472 e472 W472 => ?_
  have f473 := E1.wr W472
  have f474 := F_value.other W472 (Or.inr (slot_ne (Or.inr (own_hw hw 118 rfl)) (Or.inr (own_hw hw 116 rfl)) (by decide) (t := (.object "java/lang/Number")) (t' := (.object "java/lang/String")) (by decide) (by decide)))
  have z475 := Nat.le_trans Z0 (Keep.of_wr W472).1
  have K476 := K0.wr W472 (Or.inl (List.mem_of_getElem? (i := 0) rfl))
  have f477 := F_name.same W472
  have N478 := Fr.snoc X472 N471 g_o
  refine own_aloadN X472 hx 10 rfl (hb hby own_d19_9) rfl rfl ?_
  refine own_aloadN X472 hx 11 rfl (hb hby own_d19_10) rfl rfl ?_
  refine own_putF X472 hx hZ (host := "") hown (Or.inl (own_hw hw 117 rfl)) Via.refl e472 f474 f473 (Or.inr ⟨(own_hw hw 118 rfl), rfl, hnm⟩) (own_hw hw 85 rfl) (ty := (.object "java/lang/Number")) (by decide) rfl rfl 14 rfl (hb hby own_d19_11) fun T479 h479 X479 e479 W479 => ?_
  have f480 := f473.wr W479
  have f481 := f477.other W479 (Or.inr (slot_ne (Or.inr (own_hw hw 116 rfl)) (Or.inr (own_hw hw 118 rfl)) (by decide) (t := (.object "java/lang/String")) (t' := (.object "java/lang/Number")) (by decide) (by decide)))
  have z482 := Nat.le_trans z475 (Keep.of_wr W479).1
  have K483 := K476.wr W479 (Or.inl (List.mem_of_getElem? (i := 0) rfl))
  have f484 := f474.same W479
  have N485 := Fr.snoc X479 N478 g_o
  refine own_ret X479 none (fun _ => rfl) Bd.notSynchronized (by decide) (by decide) ?_ (fun fs hr => X479.returnOut hx Bd.returns (hb hby own_d19_14) hr)
  show Q_rm_fdi Z o nm va h0 n0 _ T479.heap _
  rw [e479]
  exact ⟨rfl, N485, K483, f480, f481, f484⟩
theorem own_ef_rm_fval (m : MethodId) (o : Addr) : entryFrame m #[(.ref o)] 1 = mkF m 0 #[.val (.ref o)] [] := by first | (simp [entryFrame, mkF, argsToLocals, Value.category]; done) | rfl
def Q_rm_fval (Z : State) (o : Addr) (u : Addr) (h0 : Heap) (n0 : Nat) (v : Option Value) (h : Heap) (L : List Loc) : Prop := v = some (.ref u) ∧ Fr n0 L ∧ h = h0
theorem own_d40_0 : decode prog_20_method_8_code 0 = .ok (.aload_n 0, 1) := by decide +kernel
theorem own_d40_1 : decode prog_20_method_8_code 1 = .ok (.getfield 13, 3) := by decide +kernel
theorem own_d40_4 : decode prog_20_method_8_code 4 = .ok (.areturn, 1) := by decide +kernel
set_option maxRecDepth 65536 in
set_option maxHeartbeats 40000000 in
theorem rm_fval (l : Launch) (Z : State) (a0 : Array Value) (hw : ∀ d ∈ tables_1, d.before a0 Z = true) (ws : List Jvm.Cond) (o : Addr) (u : Addr) (h0 : Heap) (n0 : Nat) (Z0 : n0 ≤ h0.size) (F1 : Fld Z h0 o "com/example/measured_reasoner/measuredreasoner/Summary$Field" "value" "Ljava/lang/Number;" (.ref u)) :
    MetFree l (⟨"com/example/measured_reasoner/measuredreasoner/Summary$Field", "value", "()Ljava/lang/Number;"⟩ : MethodName) (head1 (Jvm.Cond.code (⟨"com/example/measured_reasoner/measuredreasoner/Summary$Field", "value", "()Ljava/lang/Number;"⟩ : MethodName) prog_20_method_8_code 1 (some (.object "java/lang/Number")) :: ws) ({ frames := 0, cells := 0, slots := 0, locals := 0 } : Room)) (fun aa U => aa = #[(.ref o)] ∧ Z.Warmed39 U.vm ∧ U.heap = h0) (fun _ _ _ _ _ => True) (fun _ U ou U' => ∃ v L, ou = .returned v ∧ Q_rm_fval Z o u h0 n0 v U'.heap L ∧ FrameEnd U ou U' L ({ frames := 0, cells := 0, slots := 0, locals := 0 } : Room).cells ({ frames := 0, cells := 0, slots := 0, locals := 0 } : Room).slots) := by
  refine MetFree.of_bodySF (plainFor_of_name own_pn8) hisR ?_
  intro p e s m args below meth c s₁ Bd hml0 hP hK
  obtain ⟨rfl, hZ, hh⟩ := hP
  have hx := Bd.exec
  have hby := Bd.bytes
  have hml : c.maxLocals = 1 := hml0
  have hown : s.vm.findClass "com/example/measured_reasoner/measuredreasoner/Summary$Field" = some m.cls := findClass_of_methodNamed Bd.named
  have hnm := (name_of_methodNamed Bd.named Bd.method).1
  have X0 : Stand p l e ({ frames := 0, cells := 0, slots := 0, locals := 0 } : Room) s m #[(.ref o)] below meth c s₁ [] 0 0 := Stand.of_body Bd
  have e0 : s₁.heap = h0 := by rw [← hh, Bd.state]; rfl
  have N0 := Fr.nil n0
  show own_Go p e below (fun o u L => FrameEnd s o u L ({ frames := 0, cells := 0, slots := 0, locals := 0 } : Room).cells ({ frames := 0, cells := 0, slots := 0, locals := 0 } : Room).slots) (Q_rm_fval Z o u h0 n0) (s₁.setTop (entryFrame m #[(.ref o)] 1))
  rw [own_ef_rm_fval m o]
  show own_Go _ _ _ _ _ (State.setTop _ (mkF _ 0 #[.val (.ref o)] []))
  refine own_aloadN X0 hx 1 rfl (hb hby own_d40_0) rfl rfl ?_
  refine own_getF X0 hx hZ (host := "") hown (Or.inl (own_hw hw 117 rfl)) Via.refl e0 F1 4 rfl (hb hby own_d40_1) fun T486 X486 e486 => ?_
  refine own_ret X486 (some (.ref u)) (fun h => by rw [Bd.returns] at h; cases h) Bd.notSynchronized (by decide) (by decide) ?_ (fun fs hr => own_retR X486 hx Bd.returns rfl rfl (hb hby own_d40_4) hr)
  show Q_rm_fval Z o u h0 n0 _ T486.heap _
  rw [e486]
  exact ⟨rfl, N0, rfl⟩
theorem own_ef_rm_fname (m : MethodId) (o : Addr) : entryFrame m #[(.ref o)] 1 = mkF m 0 #[.val (.ref o)] [] := by first | (simp [entryFrame, mkF, argsToLocals, Value.category]; done) | rfl
def Q_rm_fname (Z : State) (o : Addr) (u : Addr) (h0 : Heap) (n0 : Nat) (v : Option Value) (h : Heap) (L : List Loc) : Prop := v = some (.ref u) ∧ Fr n0 L ∧ h = h0
theorem own_d38_0 : decode prog_20_method_7_code 0 = .ok (.aload_n 0, 1) := by decide +kernel
theorem own_d38_1 : decode prog_20_method_7_code 1 = .ok (.getfield 7, 3) := by decide +kernel
theorem own_d38_4 : decode prog_20_method_7_code 4 = .ok (.areturn, 1) := by decide +kernel
set_option maxRecDepth 65536 in
set_option maxHeartbeats 40000000 in
theorem rm_fname (l : Launch) (Z : State) (a0 : Array Value) (hw : ∀ d ∈ tables_1, d.before a0 Z = true) (ws : List Jvm.Cond) (o : Addr) (u : Addr) (h0 : Heap) (n0 : Nat) (Z0 : n0 ≤ h0.size) (F1 : Fld Z h0 o "com/example/measured_reasoner/measuredreasoner/Summary$Field" "name" "Ljava/lang/String;" (.ref u)) :
    MetFree l (⟨"com/example/measured_reasoner/measuredreasoner/Summary$Field", "name", "()Ljava/lang/String;"⟩ : MethodName) (head1 (Jvm.Cond.code (⟨"com/example/measured_reasoner/measuredreasoner/Summary$Field", "name", "()Ljava/lang/String;"⟩ : MethodName) prog_20_method_7_code 1 (some (.object "java/lang/String")) :: ws) ({ frames := 0, cells := 0, slots := 0, locals := 0 } : Room)) (fun aa U => aa = #[(.ref o)] ∧ Z.Warmed39 U.vm ∧ U.heap = h0) (fun _ _ _ _ _ => True) (fun _ U ou U' => ∃ v L, ou = .returned v ∧ Q_rm_fname Z o u h0 n0 v U'.heap L ∧ FrameEnd U ou U' L ({ frames := 0, cells := 0, slots := 0, locals := 0 } : Room).cells ({ frames := 0, cells := 0, slots := 0, locals := 0 } : Room).slots) := by
  refine MetFree.of_bodySF (plainFor_of_name own_pn8) hisR ?_
  intro p e s m args below meth c s₁ Bd hml0 hP hK
  obtain ⟨rfl, hZ, hh⟩ := hP
  have hx := Bd.exec
  have hby := Bd.bytes
  have hml : c.maxLocals = 1 := hml0
  have hown : s.vm.findClass "com/example/measured_reasoner/measuredreasoner/Summary$Field" = some m.cls := findClass_of_methodNamed Bd.named
  have hnm := (name_of_methodNamed Bd.named Bd.method).1
  have X0 : Stand p l e ({ frames := 0, cells := 0, slots := 0, locals := 0 } : Room) s m #[(.ref o)] below meth c s₁ [] 0 0 := Stand.of_body Bd
  have e0 : s₁.heap = h0 := by rw [← hh, Bd.state]; rfl
  have N0 := Fr.nil n0
  show own_Go p e below (fun o u L => FrameEnd s o u L ({ frames := 0, cells := 0, slots := 0, locals := 0 } : Room).cells ({ frames := 0, cells := 0, slots := 0, locals := 0 } : Room).slots) (Q_rm_fname Z o u h0 n0) (s₁.setTop (entryFrame m #[(.ref o)] 1))
  rw [own_ef_rm_fname m o]
  show own_Go _ _ _ _ _ (State.setTop _ (mkF _ 0 #[.val (.ref o)] []))
  refine own_aloadN X0 hx 1 rfl (hb hby own_d38_0) rfl rfl ?_
  refine own_getF X0 hx hZ (host := "") hown (Or.inl (own_hw hw 115 rfl)) Via.refl e0 F1 4 rfl (hb hby own_d38_1) fun T487 X487 e487 => ?_
  refine own_ret X487 (some (.ref u)) (fun h => by rw [Bd.returns] at h; cases h) Bd.notSynchronized (by decide) (by decide) ?_ (fun fs hr => own_retR X487 hx Bd.returns rfl rfl (hb hby own_d38_4) hr)
  show Q_rm_fname Z o u h0 n0 _ T487.heap _
  rw [e487]
  exact ⟨rfl, N0, rfl⟩
theorem own_pn9 : plainName "java/util/Collections$UnmodifiableCollection" = true := by first | (simp [plainName, overriddenIn]; done) | decide +kernel
theorem own_ef_rm_uc (m : MethodId) (o : Addr) (li : Addr) : entryFrame m #[(.ref o), (.ref li)] 2 = mkF m 0 #[.val (.ref o), .val (.ref li)] [] := by first | (simp [entryFrame, mkF, argsToLocals, Value.category]; done) | rfl
def Q_rm_uc (Z : State) (o : Addr) (li : Addr) (h0 : Heap) (n0 : Nat) (v : Option Value) (h : Heap) (L : List Loc) : Prop := v = none ∧ Fr n0 L ∧ Keep h0 h [o] ∧ Exa Z h o "java/util/Collections$UnmodifiableRandomAccessList" ∧ Fld Z h o "java/util/Collections$UnmodifiableCollection" "c" "Ljava/util/Collection;" (.ref li) ∧ Fld Z h o "java/util/Collections$UnmodifiableList" "list" "Ljava/util/List;" .null
theorem own_d30_0 : decode jdk_119_method_1_code 0 = .ok (.aload_n 0, 1) := by decide +kernel
theorem own_d30_1 : decode jdk_119_method_1_code 1 = .ok (.invokespecial 1, 3) := by decide +kernel
theorem own_d30_4 : decode jdk_119_method_1_code 4 = .ok (.aload_n 1, 1) := by decide +kernel
theorem own_d30_5 : decode jdk_119_method_1_code 5 = .ok (.ifnonnull 11, 3) := by decide +kernel
theorem own_d30_16 : decode jdk_119_method_1_code 16 = .ok (.aload_n 0, 1) := by decide +kernel
theorem own_d30_17 : decode jdk_119_method_1_code 17 = .ok (.aload_n 1, 1) := by decide +kernel
theorem own_d30_18 : decode jdk_119_method_1_code 18 = .ok (.putfield 10, 3) := by decide +kernel
theorem own_d30_21 : decode jdk_119_method_1_code 21 = .ok (.return_, 1) := by decide +kernel
set_option maxRecDepth 65536 in
set_option maxHeartbeats 40000000 in
theorem rm_uc (l : Launch) (Z : State) (a0 : Array Value) (hw : ∀ d ∈ tables_1, d.before a0 Z = true) (ws : List Jvm.Cond) (o : Addr) (li : Addr) (h0 : Heap) (n0 : Nat) (Z0 : n0 ≤ h0.size) (E1 : Exa Z h0 o "java/util/Collections$UnmodifiableRandomAccessList") (F1 : Fld Z h0 o "java/util/Collections$UnmodifiableCollection" "c" "Ljava/util/Collection;" .null) (F2 : Fld Z h0 o "java/util/Collections$UnmodifiableList" "list" "Ljava/util/List;" .null) (g_o : n0 ≤ o) :
    MetFree l (⟨"java/util/Collections$UnmodifiableCollection", "<init>", "(Ljava/util/Collection;)V"⟩ : MethodName) (head1 (Jvm.Cond.code (⟨"java/util/Collections$UnmodifiableCollection", "<init>", "(Ljava/util/Collection;)V"⟩ : MethodName) jdk_119_method_1_code 2 none :: ws) ({ frames := 1, cells := 0, slots := 0, locals := 13 } : Room)) (fun aa U => aa = #[(.ref o), (.ref li)] ∧ Z.Warmed39 U.vm ∧ U.heap = h0) (fun _ _ _ _ _ => True) (fun _ U ou U' => ∃ v L, ou = .returned v ∧ Q_rm_uc Z o li h0 n0 v U'.heap L ∧ FrameEnd U ou U' L ({ frames := 1, cells := 0, slots := 0, locals := 13 } : Room).cells ({ frames := 1, cells := 0, slots := 0, locals := 13 } : Room).slots) := by
  refine MetFree.of_bodySF (plainFor_of_name own_pn9) hisR ?_
  intro p e s m args below meth c s₁ Bd hml0 hP hK
  obtain ⟨rfl, hZ, hh⟩ := hP
  have hx := Bd.exec
  have hby := Bd.bytes
  have hml : c.maxLocals = 2 := hml0
  have hown : s.vm.findClass "java/util/Collections$UnmodifiableCollection" = some m.cls := findClass_of_methodNamed Bd.named
  have hnm := (name_of_methodNamed Bd.named Bd.method).1
  have X0 : Stand p l e ({ frames := 1, cells := 0, slots := 0, locals := 13 } : Room) s m #[(.ref o), (.ref li)] below meth c s₁ [] 0 0 := Stand.of_body Bd
  have e0 : s₁.heap = h0 := by rw [← hh, Bd.state]; rfl
  have N0 := Fr.nil n0
  have K0 := Keep.refl h0 [o]
  show own_Go p e below (fun o u L => FrameEnd s o u L ({ frames := 1, cells := 0, slots := 0, locals := 13 } : Room).cells ({ frames := 1, cells := 0, slots := 0, locals := 13 } : Room).slots) (Q_rm_uc Z o li h0 n0) (s₁.setTop (entryFrame m #[(.ref o), (.ref li)] 2))
  rw [own_ef_rm_uc m o li]
  show own_Go _ _ _ _ _ (State.setTop _ (mkF _ 0 #[.val (.ref o), .val (.ref li)] []))
  refine own_aloadN X0 hx 1 rfl (hb hby own_d30_0) rfl rfl ?_
  refine own_initO X0 hx hZ hown (own_hw hw 196 rfl) (own_hw hw 12 rfl) (own_hw hw 13 rfl) e0 (by rw [hml]; rfl) 4 rfl (hb hby own_d30_1) (by decide) 0 (Nat.le_of_eq rfl) (by decide) fun T488 X488 e488 => ?_
  refine own_aloadN X488 hx 5 rfl (hb hby own_d30_4) rfl rfl ?_
  refine own_ifnonnullYes X488 hx 16 (hb hby own_d30_5) (by decide) rfl ?_
  refine own_aloadN X488 hx 17 rfl (hb hby own_d30_16) rfl rfl ?_
  refine own_aloadN X488 hx 18 rfl (hb hby own_d30_17) rfl rfl ?_
  refine own_putF X488 hx hZ (host := "") hown (Or.inl (own_hw hw 197 rfl)) Via.refl e488 F1 E1 (Or.inr ⟨(own_hw hw 198 rfl), rfl, hnm⟩) (own_hw hw 179 rfl) (ty := (.object "java/util/Collection")) (by decide) rfl rfl 21 rfl (hb hby own_d30_18) fun T489 h489 X489 e489 W489 => ?_
  have f490 := E1.wr W489
  have f491 := F2.other W489 (Or.inr (slot_ne (Or.inr (own_hw hw 200 rfl)) (Or.inr (own_hw hw 198 rfl)) (by decide) (t := (.object "java/util/List")) (t' := (.object "java/util/Collection")) (by decide) (by decide)))
  have z492 := Nat.le_trans Z0 (Keep.of_wr W489).1
  have K493 := K0.wr W489 (Or.inl (List.mem_of_getElem? (i := 0) rfl))
  have f494 := F1.same W489
  have N495 := Fr.snoc X489 N0 g_o
  refine own_ret X489 none (fun _ => rfl) Bd.notSynchronized (by decide) (by decide) ?_ (fun fs hr => X489.returnOut hx Bd.returns (hb hby own_d30_21) hr)
  show Q_rm_uc Z o li h0 n0 _ T489.heap _
  rw [e489]
  exact ⟨rfl, N495, K493, f490, f494, f491⟩
theorem own_pn10 : plainName "java/util/Collections$UnmodifiableList" = true := by first | (simp [plainName, overriddenIn]; done) | decide +kernel
theorem own_ef_rm_ul (m : MethodId) (o : Addr) (li : Addr) : entryFrame m #[(.ref o), (.ref li)] 2 = mkF m 0 #[.val (.ref o), .val (.ref li)] [] := by first | (simp [entryFrame, mkF, argsToLocals, Value.category]; done) | rfl
def Q_rm_ul (Z : State) (o : Addr) (li : Addr) (h0 : Heap) (n0 : Nat) (v : Option Value) (h : Heap) (L : List Loc) : Prop := v = none ∧ Fr n0 L ∧ Keep h0 h [o] ∧ Exa Z h o "java/util/Collections$UnmodifiableRandomAccessList" ∧ Fld Z h o "java/util/Collections$UnmodifiableCollection" "c" "Ljava/util/Collection;" (.ref li) ∧ Fld Z h o "java/util/Collections$UnmodifiableList" "list" "Ljava/util/List;" (.ref li)
theorem own_d29_0 : decode jdk_120_method_1_code 0 = .ok (.aload_n 0, 1) := by decide +kernel
theorem own_d29_1 : decode jdk_120_method_1_code 1 = .ok (.aload_n 1, 1) := by decide +kernel
theorem own_d29_2 : decode jdk_120_method_1_code 2 = .ok (.invokespecial 1, 3) := by decide +kernel
theorem own_pd7 : parseMethodDescriptor "(Ljava/util/Collection;)V" = some ⟨[(.object "java/util/Collection")], none⟩ := by decide +kernel
theorem own_d29_5 : decode jdk_120_method_1_code 5 = .ok (.aload_n 0, 1) := by decide +kernel
theorem own_d29_6 : decode jdk_120_method_1_code 6 = .ok (.aload_n 1, 1) := by decide +kernel
theorem own_d29_7 : decode jdk_120_method_1_code 7 = .ok (.putfield 7, 3) := by decide +kernel
theorem own_d29_10 : decode jdk_120_method_1_code 10 = .ok (.return_, 1) := by decide +kernel
set_option maxRecDepth 65536 in
set_option maxHeartbeats 40000000 in
theorem rm_ul (l : Launch) (Z : State) (a0 : Array Value) (hw : ∀ d ∈ tables_1, d.before a0 Z = true) (ws : List Jvm.Cond) (o : Addr) (li : Addr) (h0 : Heap) (n0 : Nat) (Z0 : n0 ≤ h0.size) (E1 : Exa Z h0 o "java/util/Collections$UnmodifiableRandomAccessList") (F1 : Fld Z h0 o "java/util/Collections$UnmodifiableCollection" "c" "Ljava/util/Collection;" .null) (F2 : Fld Z h0 o "java/util/Collections$UnmodifiableList" "list" "Ljava/util/List;" .null) (g_o : n0 ≤ o) :
    MetFree l (⟨"java/util/Collections$UnmodifiableList", "<init>", "(Ljava/util/List;)V"⟩ : MethodName) (head1 (Jvm.Cond.code (⟨"java/util/Collections$UnmodifiableList", "<init>", "(Ljava/util/List;)V"⟩ : MethodName) jdk_120_method_1_code 2 none :: ws) ({ frames := 2, cells := 0, slots := 0, locals := 30 } : Room)) (fun aa U => aa = #[(.ref o), (.ref li)] ∧ Z.Warmed39 U.vm ∧ U.heap = h0) (fun _ _ _ _ _ => True) (fun _ U ou U' => ∃ v L, ou = .returned v ∧ Q_rm_ul Z o li h0 n0 v U'.heap L ∧ FrameEnd U ou U' L ({ frames := 2, cells := 0, slots := 0, locals := 30 } : Room).cells ({ frames := 2, cells := 0, slots := 0, locals := 30 } : Room).slots) := by
  refine MetFree.of_bodySF (plainFor_of_name own_pn10) hisR ?_
  intro p e s m args below meth c s₁ Bd hml0 hP hK
  obtain ⟨rfl, hZ, hh⟩ := hP
  have hx := Bd.exec
  have hby := Bd.bytes
  have hml : c.maxLocals = 2 := hml0
  have hown : s.vm.findClass "java/util/Collections$UnmodifiableList" = some m.cls := findClass_of_methodNamed Bd.named
  have hnm := (name_of_methodNamed Bd.named Bd.method).1
  have X0 : Stand p l e ({ frames := 2, cells := 0, slots := 0, locals := 30 } : Room) s m #[(.ref o), (.ref li)] below meth c s₁ [] 0 0 := Stand.of_body Bd
  have e0 : s₁.heap = h0 := by rw [← hh, Bd.state]; rfl
  have N0 := Fr.nil n0
  have K0 := Keep.refl h0 [o]
  show own_Go p e below (fun o u L => FrameEnd s o u L ({ frames := 2, cells := 0, slots := 0, locals := 30 } : Room).cells ({ frames := 2, cells := 0, slots := 0, locals := 30 } : Room).slots) (Q_rm_ul Z o li h0 n0) (s₁.setTop (entryFrame m #[(.ref o), (.ref li)] 2))
  rw [own_ef_rm_ul m o li]
  show own_Go _ _ _ _ _ (State.setTop _ (mkF _ 0 #[.val (.ref o), .val (.ref li)] []))
  refine own_aloadN X0 hx 1 rfl (hb hby own_d29_0) rfl rfl ?_
  refine own_aloadN X0 hx 2 rfl (hb hby own_d29_1) rfl rfl ?_
  refine own_special X0 hx hZ (y := (⟨"java/util/Collections$UnmodifiableCollection", "<init>", "(Ljava/util/Collection;)V"⟩ : MethodName)) hown rfl (own_hw hw 190 rfl) (own_hw hw 191 rfl) (a := o) (by decide) rfl (rm_uc l Z a0 hw [] o li h0 n0 Z0 E1 F1 F2 g_o) (own_hw hw 195 rfl) (own_hw hw 194 rfl) (by decide) e0 (by rw [hml]; rfl) [(.ref li)] 0 (by decide) (Nat.le_of_eq rfl) (by decide) (by decide) (lenOf own_pd7 rfl) rfl rfl 5 rfl (hb hby own_d29_2) fun v496 T496 Lc496 X496 hQ496 => ?_
  obtain ⟨rfl, Nq496, Kq496, f497, f498, f499⟩ := hQ496
  have N500 := Fr.app N0 Nq496
  have f501 := E1.keep Kq496
  have z504 := Nat.le_trans Z0 Kq496.1
  have K505 := K0.trans Kq496 (allS (Or.inl (List.mem_of_getElem? (i := 0) rfl)) all0)
  show own_Go _ _ _ _ _ (State.setTop _ (mkF _ 5 _ []))
  refine own_aloadN X496 hx 6 rfl (hb hby own_d29_5) rfl rfl ?_
  refine own_aloadN X496 hx 7 rfl (hb hby own_d29_6) rfl rfl ?_
  refine own_putF X496 hx hZ (host := "") hown (Or.inl (own_hw hw 199 rfl)) Via.refl rfl f499 f497 (Or.inr ⟨(own_hw hw 200 rfl), rfl, hnm⟩) (own_hw hw 179 rfl) (ty := (.object "java/util/List")) (by decide) rfl rfl 10 rfl (hb hby own_d29_7) fun T506 h506 X506 e506 W506 => ?_
  have f507 := f497.wr W506
  have f508 := f498.other W506 (Or.inr (slot_ne (Or.inr (own_hw hw 198 rfl)) (Or.inr (own_hw hw 200 rfl)) (by decide) (t := (.object "java/util/Collection")) (t' := (.object "java/util/List")) (by decide) (by decide)))
  have z509 := Nat.le_trans z504 (Keep.of_wr W506).1
  have K510 := K505.wr W506 (Or.inl (List.mem_of_getElem? (i := 0) rfl))
  have f511 := f499.same W506
  have N512 := Fr.snoc X506 N500 g_o
  refine own_ret X506 none (fun _ => rfl) Bd.notSynchronized (by decide) (by decide) ?_ (fun fs hr => X506.returnOut hx Bd.returns (hb hby own_d29_10) hr)
  show Q_rm_ul Z o li h0 n0 _ T506.heap _
  rw [e506]
  exact ⟨rfl, N512, K510, f507, f508, f511⟩
theorem own_pn11 : plainName "java/util/Collections$UnmodifiableRandomAccessList" = true := by first | (simp [plainName, overriddenIn]; done) | decide +kernel
theorem own_ef_rm_ur (m : MethodId) (o : Addr) (li : Addr) : entryFrame m #[(.ref o), (.ref li)] 2 = mkF m 0 #[.val (.ref o), .val (.ref li)] [] := by first | (simp [entryFrame, mkF, argsToLocals, Value.category]; done) | rfl
def Q_rm_ur (Z : State) (o : Addr) (li : Addr) (h0 : Heap) (n0 : Nat) (v : Option Value) (h : Heap) (L : List Loc) : Prop := v = none ∧ Fr n0 L ∧ Keep h0 h [o] ∧ Exa Z h o "java/util/Collections$UnmodifiableRandomAccessList" ∧ Fld Z h o "java/util/Collections$UnmodifiableCollection" "c" "Ljava/util/Collection;" (.ref li) ∧ Fld Z h o "java/util/Collections$UnmodifiableList" "list" "Ljava/util/List;" (.ref li)
theorem own_d28_0 : decode jdk_121_method_1_code 0 = .ok (.aload_n 0, 1) := by decide +kernel
theorem own_d28_1 : decode jdk_121_method_1_code 1 = .ok (.aload_n 1, 1) := by decide +kernel
theorem own_d28_2 : decode jdk_121_method_1_code 2 = .ok (.invokespecial 1, 3) := by decide +kernel
theorem own_pd8 : parseMethodDescriptor "(Ljava/util/List;)V" = some ⟨[(.object "java/util/List")], none⟩ := by decide +kernel
theorem own_d28_5 : decode jdk_121_method_1_code 5 = .ok (.return_, 1) := by decide +kernel
set_option maxRecDepth 65536 in
set_option maxHeartbeats 40000000 in
theorem rm_ur (l : Launch) (Z : State) (a0 : Array Value) (hw : ∀ d ∈ tables_1, d.before a0 Z = true) (ws : List Jvm.Cond) (o : Addr) (li : Addr) (h0 : Heap) (n0 : Nat) (Z0 : n0 ≤ h0.size) (E1 : Exa Z h0 o "java/util/Collections$UnmodifiableRandomAccessList") (F1 : Fld Z h0 o "java/util/Collections$UnmodifiableCollection" "c" "Ljava/util/Collection;" .null) (F2 : Fld Z h0 o "java/util/Collections$UnmodifiableList" "list" "Ljava/util/List;" .null) (g_o : n0 ≤ o) :
    MetFree l (⟨"java/util/Collections$UnmodifiableRandomAccessList", "<init>", "(Ljava/util/List;)V"⟩ : MethodName) (head1 (Jvm.Cond.code (⟨"java/util/Collections$UnmodifiableRandomAccessList", "<init>", "(Ljava/util/List;)V"⟩ : MethodName) jdk_121_method_1_code 2 none :: ws) ({ frames := 3, cells := 0, slots := 0, locals := 45 } : Room)) (fun aa U => aa = #[(.ref o), (.ref li)] ∧ Z.Warmed39 U.vm ∧ U.heap = h0) (fun _ _ _ _ _ => True) (fun _ U ou U' => ∃ v L, ou = .returned v ∧ Q_rm_ur Z o li h0 n0 v U'.heap L ∧ FrameEnd U ou U' L ({ frames := 3, cells := 0, slots := 0, locals := 45 } : Room).cells ({ frames := 3, cells := 0, slots := 0, locals := 45 } : Room).slots) := by
  refine MetFree.of_bodySF (plainFor_of_name own_pn11) hisR ?_
  intro p e s m args below meth c s₁ Bd hml0 hP hK
  obtain ⟨rfl, hZ, hh⟩ := hP
  have hx := Bd.exec
  have hby := Bd.bytes
  have hml : c.maxLocals = 2 := hml0
  have hown : s.vm.findClass "java/util/Collections$UnmodifiableRandomAccessList" = some m.cls := findClass_of_methodNamed Bd.named
  have hnm := (name_of_methodNamed Bd.named Bd.method).1
  have X0 : Stand p l e ({ frames := 3, cells := 0, slots := 0, locals := 45 } : Room) s m #[(.ref o), (.ref li)] below meth c s₁ [] 0 0 := Stand.of_body Bd
  have e0 : s₁.heap = h0 := by rw [← hh, Bd.state]; rfl
  have N0 := Fr.nil n0
  have K0 := Keep.refl h0 [o]
  show own_Go p e below (fun o u L => FrameEnd s o u L ({ frames := 3, cells := 0, slots := 0, locals := 45 } : Room).cells ({ frames := 3, cells := 0, slots := 0, locals := 45 } : Room).slots) (Q_rm_ur Z o li h0 n0) (s₁.setTop (entryFrame m #[(.ref o), (.ref li)] 2))
  rw [own_ef_rm_ur m o li]
  show own_Go _ _ _ _ _ (State.setTop _ (mkF _ 0 #[.val (.ref o), .val (.ref li)] []))
  refine own_aloadN X0 hx 1 rfl (hb hby own_d28_0) rfl rfl ?_
  refine own_aloadN X0 hx 2 rfl (hb hby own_d28_1) rfl rfl ?_
  refine own_special X0 hx hZ (y := (⟨"java/util/Collections$UnmodifiableList", "<init>", "(Ljava/util/List;)V"⟩ : MethodName)) hown rfl (own_hw hw 184 rfl) (own_hw hw 185 rfl) (a := o) (by decide) rfl (rm_ul l Z a0 hw [] o li h0 n0 Z0 E1 F1 F2 g_o) (own_hw hw 189 rfl) (own_hw hw 188 rfl) (by decide) e0 (by rw [hml]; rfl) [(.ref li)] 0 (by decide) (Nat.le_of_eq rfl) (by decide) (by decide) (lenOf own_pd8 rfl) rfl rfl 5 rfl (hb hby own_d28_2) fun v513 T513 Lc513 X513 hQ513 => ?_
  obtain ⟨rfl, Nq513, Kq513, f514, f515, f516⟩ := hQ513
  have N517 := Fr.app N0 Nq513
  have f518 := E1.keep Kq513
  have z521 := Nat.le_trans Z0 Kq513.1
  have K522 := K0.trans Kq513 (allS (Or.inl (List.mem_of_getElem? (i := 0) rfl)) all0)
  show own_Go _ _ _ _ _ (State.setTop _ (mkF _ 5 _ []))
  refine own_ret X513 none (fun _ => rfl) Bd.notSynchronized (by decide) (by decide) ?_ (fun fs hr => X513.returnOut hx Bd.returns (hb hby own_d28_5) hr)
  show Q_rm_ur Z o li h0 n0 _ T513.heap _
  exact ⟨rfl, N517, K522, f514, f515, f516⟩
theorem own_pn12 : plainName "java/util/Collections" = true := by first | (simp [plainName, overriddenIn]; done) | decide +kernel
theorem own_ef_rm_un (m : MethodId) (li : Addr) : entryFrame m #[(.ref li)] 1 = mkF m 0 #[.val (.ref li)] [] := by first | (simp [entryFrame, mkF, argsToLocals, Value.category]; done) | rfl
def Q_rm_un (Z : State) (li : Addr) (mA : Addr) (mL : Addr) (mR : Addr) (h0 : Heap) (n0 : Nat) (v : Option Value) (h : Heap) (L : List Loc) : Prop := ∃ (u : Addr), v = some (.ref u) ∧ Fr n0 L ∧ Keep h0 h [] ∧ h0.size ≤ u ∧ Exa Z h u "java/util/Collections$UnmodifiableRandomAccessList" ∧ Fld Z h u "java/util/Collections$UnmodifiableCollection" "c" "Ljava/util/Collection;" (.ref li) ∧ Fld Z h u "java/util/Collections$UnmodifiableList" "list" "Ljava/util/List;" (.ref li)
theorem own_d27_0 : decode jdk_79_method_35_code 0 = .ok (.aload_n 0, 1) := by decide +kernel
theorem own_d27_1 : decode jdk_79_method_35_code 1 = .ok (.invokeinterface 211 1, 5) := by decide +kernel
theorem own_d27_6 : decode jdk_79_method_35_code 6 = .ok (.ldc 212, 2) := by decide +kernel
theorem own_d27_8 : decode jdk_79_method_35_code 8 = .ok (.if_acmp .eq 14, 3) := by decide +kernel
theorem own_d27_11 : decode jdk_79_method_35_code 11 = .ok (.aload_n 0, 1) := by decide +kernel
theorem own_d27_12 : decode jdk_79_method_35_code 12 = .ok (.invokeinterface 214 1, 5) := by decide +kernel
theorem own_d27_17 : decode jdk_79_method_35_code 17 = .ok (.ldc 215, 2) := by decide +kernel
theorem own_d27_19 : decode jdk_79_method_35_code 19 = .ok (.if_acmp .ne 5, 3) := by decide +kernel
theorem own_d27_24 : decode jdk_79_method_35_code 24 = .ok (.aload_n 0, 1) := by decide +kernel
theorem own_d27_25 : decode jdk_79_method_35_code 25 = .ok (.instanceof 13, 3) := by decide +kernel
theorem own_d27_28 : decode jdk_79_method_35_code 28 = .ok (.ifCond .eq 14, 3) := by decide +kernel
theorem own_d27_31 : decode jdk_79_method_35_code 31 = .ok (.new 215, 3) := by decide +kernel
theorem own_d27_34 : decode jdk_79_method_35_code 34 = .ok (.dup, 1) := by decide +kernel
theorem own_d27_35 : decode jdk_79_method_35_code 35 = .ok (.aload_n 0, 1) := by decide +kernel
theorem own_d27_36 : decode jdk_79_method_35_code 36 = .ok (.invokespecial 217, 3) := by decide +kernel
theorem own_d27_39 : decode jdk_79_method_35_code 39 = .ok (.goto 11, 3) := by decide +kernel
theorem own_d27_50 : decode jdk_79_method_35_code 50 = .ok (.areturn, 1) := by decide +kernel
set_option maxRecDepth 65536 in
set_option maxHeartbeats 40000000 in
theorem rm_un (l : Launch) (Z : State) (a0 : Array Value) (hw : ∀ d ∈ tables_1, d.before a0 Z = true) (ws : List Jvm.Cond) (li : Addr) (mA : Addr) (mL : Addr) (mR : Addr) (h0 : Heap) (n0 : Nat) (Z0 : n0 ≤ h0.size) (E1 : Exa Z h0 li "java/util/ArrayList") (M1 : own_Mi Z "java/util/ArrayList" mA) (M2 : own_Mi Z "java/util/Collections$UnmodifiableList" mL) (M3 : own_Mi Z "java/util/Collections$UnmodifiableRandomAccessList" mR) (nAL : mA ≠ mL) (nAR : mA ≠ mR) :
    MetFree l (⟨"java/util/Collections", "unmodifiableList", "(Ljava/util/List;)Ljava/util/List;"⟩ : MethodName) (head1 (Jvm.Cond.code (⟨"java/util/Collections", "unmodifiableList", "(Ljava/util/List;)Ljava/util/List;"⟩ : MethodName) jdk_79_method_35_code 1 (some (.object "java/util/List")) :: ws) ({ frames := 4, cells := 1, slots := 2, locals := 60 } : Room)) (fun aa U => aa = #[(.ref li)] ∧ Z.Warmed39 U.vm ∧ U.heap = h0) (fun _ _ _ _ _ => True) (fun _ U ou U' => ∃ v L, ou = .returned v ∧ Q_rm_un Z li mA mL mR h0 n0 v U'.heap L ∧ FrameEnd U ou U' L ({ frames := 4, cells := 1, slots := 2, locals := 60 } : Room).cells ({ frames := 4, cells := 1, slots := 2, locals := 60 } : Room).slots) := by
  refine MetFree.of_bodySF (plainFor_of_name own_pn12) hisR ?_
  intro p e s m args below meth c s₁ Bd hml0 hP hK
  obtain ⟨rfl, hZ, hh⟩ := hP
  have hx := Bd.exec
  have hby := Bd.bytes
  have hml : c.maxLocals = 1 := hml0
  have hown : s.vm.findClass "java/util/Collections" = some m.cls := findClass_of_methodNamed Bd.named
  have hnm := (name_of_methodNamed Bd.named Bd.method).1
  have X0 : Stand p l e ({ frames := 4, cells := 1, slots := 2, locals := 60 } : Room) s m #[(.ref li)] below meth c s₁ [] 0 0 := Stand.of_body Bd
  have e0 : s₁.heap = h0 := by rw [← hh, Bd.state]; rfl
  have N0 := Fr.nil n0
  have K0 := Keep.refl h0 []
  show own_Go p e below (fun o u L => FrameEnd s o u L ({ frames := 4, cells := 1, slots := 2, locals := 60 } : Room).cells ({ frames := 4, cells := 1, slots := 2, locals := 60 } : Room).slots) (Q_rm_un Z li mA mL mR h0 n0) (s₁.setTop (entryFrame m #[(.ref li)] 1))
  rw [own_ef_rm_un m li]
  show own_Go _ _ _ _ _ (State.setTop _ (mkF _ 0 #[.val (.ref li)] []))
  refine own_aloadN X0 hx 1 rfl (hb hby own_d27_0) rfl rfl ?_
  refine own_gclsI X0 hx hZ (C := "java/util/ArrayList") (xi := (⟨"java/util/List", "getClass", "()Ljava/lang/Class;"⟩ : MethodName)) hown (own_hw hw 163 rfl) (own_hw hw 164 rfl) (own_hw hw 165 rfl) (own_hw hw 166 rfl) (own_hw hw 167 rfl) (own_hw hw 168 rfl) (own_hw hw 169 rfl) (own_hw hw 126 rfl) (own_hw hw 170 rfl) (by decide) (by decide) rfl rfl e0 (by rw [hml]; rfl) E1 M1 6 rfl (hb hby own_d27_1) (by decide) 0 (Nat.le_of_eq rfl) (by decide) fun T523 X523 e523 => ?_
  refine own_ldcM X523 hx hZ hown (own_hw hw 172 rfl) M2 e523 8 rfl (hb hby own_d27_6) fun T524 X524 e524 => ?_
  refine own_acmp X524 hx false 11 (hb hby own_d27_8) rfl rfl (decide_eq_false fun q => nAL (Value.ref.inj q)) (by decide) (by decide) ?_
  refine own_aloadN X524 hx 12 rfl (hb hby own_d27_11) rfl rfl ?_
  refine own_gclsI X524 hx hZ (C := "java/util/ArrayList") (xi := (⟨"java/util/List", "getClass", "()Ljava/lang/Class;"⟩ : MethodName)) hown (own_hw hw 174 rfl) (own_hw hw 164 rfl) (own_hw hw 165 rfl) (own_hw hw 166 rfl) (own_hw hw 167 rfl) (own_hw hw 168 rfl) (own_hw hw 169 rfl) (own_hw hw 126 rfl) (own_hw hw 170 rfl) (by decide) (by decide) rfl rfl e524 (by rw [hml]; rfl) E1 M1 17 rfl (hb hby own_d27_12) (by decide) 0 (Nat.le_of_eq rfl) (by decide) fun T525 X525 e525 => ?_
  refine own_ldcM X525 hx hZ hown (own_hw hw 175 rfl) M3 e525 19 rfl (hb hby own_d27_17) fun T526 X526 e526 => ?_
  refine own_acmp X526 hx false 24 (hb hby own_d27_19) rfl rfl (decide_eq_false fun q => nAR (Value.ref.inj q)) (by decide) (by decide) ?_
  refine own_aloadN X526 hx 25 rfl (hb hby own_d27_24) rfl rfl ?_
  obtain ⟨T527, X527, e527, st527⟩ := instY X526 hx hZ hown (own_hw hw 177 rfl) e526 (Ins.of_exa E1 (own_hw hw 178 rfl)) (g := (mkF m 25 #[.val (.ref li)] [(.ref li)])) rfl rfl (hb hby own_d27_25)
  refine own_st st527 ?_
  show own_Go _ _ _ _ _ (State.setTop _ (mkF _ 28 #[.val (.ref li)] [(.int (1 : Int32))]))
  refine own_ifNo X527 hx 31 rfl (hb hby own_d27_28) (by decide) ?_
  refine own_new X527 hx hZ hown (own_hw hw 175 rfl) (own_hw hw 179 rfl) (own_hw hw 180 rfl) e527 34 rfl (hb hby own_d27_31) (by decide) (by decide) fun T528 h528 b528 g528 X528 e528 E528 A528 D528 => ?_
  have ne529 : li ≠ b528 := Nat.ne_of_lt (Nat.lt_of_lt_of_le E1.lt (Nat.le_of_eq g528.symm))
  have ge530 : n0 ≤ b528 := Nat.le_trans Z0 (Nat.le_of_eq g528.symm)
  have sz531 : h0.size ≤ b528 := Nat.le_trans K0.1 (Nat.le_of_eq g528.symm)
  have f532 := E1.ext E528
  have z533 := Nat.le_trans Z0 E528.1
  have K534 := K0.ext E528
  have f535 : Fld Z h528 b528 "java/util/Collections$UnmodifiableCollection" "c" "Ljava/util/Collection;" .null := D528 (Or.inr (own_hw hw 198 rfl)) (ty := (.object "java/util/Collection")) (by decide)
  have f536 : Fld Z h528 b528 "java/util/Collections$UnmodifiableList" "list" "Ljava/util/List;" .null := D528 (Or.inr (own_hw hw 200 rfl)) (ty := (.object "java/util/List")) (by decide)
  refine own_dup X528 hx 35 rfl (hb hby own_d27_34) rfl ?_
  refine own_aloadN X528 hx 36 rfl (hb hby own_d27_35) rfl rfl ?_
  refine own_special X528 hx hZ (y := (⟨"java/util/Collections$UnmodifiableRandomAccessList", "<init>", "(Ljava/util/List;)V"⟩ : MethodName)) hown rfl (own_hw hw 181 rfl) (own_hw hw 182 rfl) (a := b528) (by decide) rfl (rm_ur l Z a0 hw [] b528 li h528 n0 z533 A528 f535 f536 ge530) (own_hw hw 183 rfl) (own_hw hw 180 rfl) (by decide) e528 (by rw [hml]; rfl) [(.ref li)] 1 (by decide) (Nat.le_of_eq rfl) (by decide) (by decide) (lenOf own_pd8 rfl) rfl rfl 39 rfl (hb hby own_d27_36) fun v537 T537 Lc537 X537 hQ537 => ?_
  obtain ⟨rfl, Nq537, Kq537, f538, f539, f540⟩ := hQ537
  have N541 := Fr.app N0 Nq537
  have f542 := f532.keep Kq537
  have f543 := A528.keep Kq537
  have z546 := Nat.le_trans z533 Kq537.1
  have K547 := K534.trans Kq537 (allS (Or.inr sz531) all0)
  show own_Go _ _ _ _ _ (State.setTop _ (mkF _ 39 _ [(.ref b528)]))
  refine own_goto X537 hx 50 (hb hby own_d27_39) (by decide) rfl ?_
  refine own_ret X537 (some (.ref b528)) (fun h => by rw [Bd.returns] at h; cases h) Bd.notSynchronized (by decide) (by decide) ?_ (fun fs hr => own_retR X537 hx Bd.returns rfl rfl (hb hby own_d27_50) hr)
  show Q_rm_un Z li mA mL mR h0 n0 _ T537.heap _
  exact ⟨b528, rfl, N541, K547, sz531, f538, f539, f540⟩
theorem own_ef_rm_fs (m : MethodId) (o : Addr) : entryFrame m #[(.ref o)] 1 = mkF m 0 #[.val (.ref o)] [] := by first | (simp [entryFrame, mkF, argsToLocals, Value.category]; done) | rfl
def Q_rm_fs (Z : State) (o : Addr) (li : Addr) (mA : Addr) (mL : Addr) (mR : Addr) (h0 : Heap) (n0 : Nat) (v : Option Value) (h : Heap) (L : List Loc) : Prop := ∃ (u : Addr), v = some (.ref u) ∧ Fr n0 L ∧ Keep h0 h [] ∧ h0.size ≤ u ∧ Exa Z h u "java/util/Collections$UnmodifiableRandomAccessList" ∧ Fld Z h u "java/util/Collections$UnmodifiableCollection" "c" "Ljava/util/Collection;" (.ref li) ∧ Fld Z h u "java/util/Collections$UnmodifiableList" "list" "Ljava/util/List;" (.ref li)
theorem own_d26_0 : decode prog_19_method_4_code 0 = .ok (.aload_n 0, 1) := by decide +kernel
theorem own_d26_1 : decode prog_19_method_4_code 1 = .ok (.getfield 10, 3) := by decide +kernel
theorem own_d26_4 : decode prog_19_method_4_code 4 = .ok (.invokestatic 38, 3) := by decide +kernel
theorem own_pd9 : parseMethodDescriptor "(Ljava/util/List;)Ljava/util/List;" = some ⟨[(.object "java/util/List")], some (.object "java/util/List")⟩ := by decide +kernel
theorem own_d26_7 : decode prog_19_method_4_code 7 = .ok (.areturn, 1) := by decide +kernel
set_option maxRecDepth 65536 in
set_option maxHeartbeats 40000000 in
theorem rm_fs (l : Launch) (Z : State) (a0 : Array Value) (hw : ∀ d ∈ tables_1, d.before a0 Z = true) (ws : List Jvm.Cond) (o : Addr) (li : Addr) (mA : Addr) (mL : Addr) (mR : Addr) (h0 : Heap) (n0 : Nat) (Z0 : n0 ≤ h0.size) (F0 : Fld Z h0 o "com/example/measured_reasoner/measuredreasoner/Summary" "fields" "Ljava/util/List;" (.ref li)) (E1 : Exa Z h0 li "java/util/ArrayList") (M1 : own_Mi Z "java/util/ArrayList" mA) (M2 : own_Mi Z "java/util/Collections$UnmodifiableList" mL) (M3 : own_Mi Z "java/util/Collections$UnmodifiableRandomAccessList" mR) (nAL : mA ≠ mL) (nAR : mA ≠ mR) :
    MetFree l (⟨"com/example/measured_reasoner/measuredreasoner/Summary", "fields", "()Ljava/util/List;"⟩ : MethodName) (head1 (Jvm.Cond.code (⟨"com/example/measured_reasoner/measuredreasoner/Summary", "fields", "()Ljava/util/List;"⟩ : MethodName) prog_19_method_4_code 1 (some (.object "java/util/List")) :: ws) ({ frames := 5, cells := 1, slots := 2, locals := 75 } : Room)) (fun aa U => aa = #[(.ref o)] ∧ Z.Warmed39 U.vm ∧ U.heap = h0) (fun _ _ _ _ _ => True) (fun _ U ou U' => ∃ v L, ou = .returned v ∧ Q_rm_fs Z o li mA mL mR h0 n0 v U'.heap L ∧ FrameEnd U ou U' L ({ frames := 5, cells := 1, slots := 2, locals := 75 } : Room).cells ({ frames := 5, cells := 1, slots := 2, locals := 75 } : Room).slots) := by
  refine MetFree.of_bodySF (plainFor_of_name own_pn5) hisR ?_
  intro p e s m args below meth c s₁ Bd hml0 hP hK
  obtain ⟨rfl, hZ, hh⟩ := hP
  have hx := Bd.exec
  have hby := Bd.bytes
  have hml : c.maxLocals = 1 := hml0
  have hown : s.vm.findClass "com/example/measured_reasoner/measuredreasoner/Summary" = some m.cls := findClass_of_methodNamed Bd.named
  have hnm := (name_of_methodNamed Bd.named Bd.method).1
  have X0 : Stand p l e ({ frames := 5, cells := 1, slots := 2, locals := 75 } : Room) s m #[(.ref o)] below meth c s₁ [] 0 0 := Stand.of_body Bd
  have e0 : s₁.heap = h0 := by rw [← hh, Bd.state]; rfl
  have N0 := Fr.nil n0
  have K0 := Keep.refl h0 []
  show own_Go p e below (fun o u L => FrameEnd s o u L ({ frames := 5, cells := 1, slots := 2, locals := 75 } : Room).cells ({ frames := 5, cells := 1, slots := 2, locals := 75 } : Room).slots) (Q_rm_fs Z o li mA mL mR h0 n0) (s₁.setTop (entryFrame m #[(.ref o)] 1))
  rw [own_ef_rm_fs m o]
  show own_Go _ _ _ _ _ (State.setTop _ (mkF _ 0 #[.val (.ref o)] []))
  refine own_aloadN X0 hx 1 rfl (hb hby own_d26_0) rfl rfl ?_
  refine own_getF X0 hx hZ (host := "") hown (Or.inl (own_hw hw 77 rfl)) Via.refl e0 F0 4 rfl (hb hby own_d26_1) fun T548 X548 e548 => ?_
  refine own_callS X548 hx hZ (y := (⟨"java/util/Collections", "unmodifiableList", "(Ljava/util/List;)Ljava/util/List;"⟩ : MethodName)) hown (own_hw hw 159 rfl) (own_hw hw 160 rfl) (by decide) (rm_un l Z a0 hw [] li mA mL mR h0 n0 Z0 E1 M1 M2 M3 nAL nAR) (own_hw hw 162 rfl) (own_hw hw 161 rfl) (by decide) e548 (by rw [hml]; rfl) [(.ref li)] 0 (by decide) (Nat.le_of_eq rfl) (by decide) (by decide) (lenOf own_pd9 rfl) rfl rfl 7 rfl (hb hby own_d26_4) fun v549 T549 Lc549 X549 hQ549 => ?_
  obtain ⟨u_549, rfl, Nq549, Kq549, sd0_549, f550, f551, f552⟩ := hQ549
  have N553 := Fr.app N0 Nq549
  have ne554 : o ≠ u_549 := Nat.ne_of_lt (Nat.lt_of_lt_of_le F0.lt sd0_549)
  have ne555 : li ≠ u_549 := Nat.ne_of_lt (Nat.lt_of_lt_of_le E1.lt sd0_549)
  have ge556 : n0 ≤ u_549 := Nat.le_trans Z0 sd0_549
  have sz557 : h0.size ≤ u_549 := Nat.le_trans K0.1 sd0_549
  have f558 := F0.keep Kq549 nin0
  have f559 := E1.keep Kq549
  have z560 := Nat.le_trans Z0 Kq549.1
  have K561 := K0.trans Kq549 all0
  show own_Go _ _ _ _ _ (State.setTop _ (mkF _ 7 _ [(.ref u_549)]))
  refine own_ret X549 (some (.ref u_549)) (fun h => by rw [Bd.returns] at h; cases h) Bd.notSynchronized (by decide) (by decide) ?_ (fun fs hr => own_retR X549 hx Bd.returns rfl rfl (hb hby own_d26_7) hr)
  show Q_rm_fs Z o li mA mL mR h0 n0 _ T549.heap _
  exact ⟨u_549, rfl, N553, K561, sz557, f550, f551, f552⟩
theorem own_ef_rm_size (m : MethodId) (o : Addr) : entryFrame m #[(.ref o)] 1 = mkF m 0 #[.val (.ref o)] [] := by first | (simp [entryFrame, mkF, argsToLocals, Value.category]; done) | rfl
def Q_rm_size (Z : State) (o : Addr) (sz : Int32) (h0 : Heap) (n0 : Nat) (v : Option Value) (h : Heap) (L : List Loc) : Prop := v = some (.int sz) ∧ Fr n0 L ∧ h = h0
theorem own_d32_0 : decode jdk_38_method_8_code 0 = .ok (.aload_n 0, 1) := by decide +kernel
theorem own_d32_1 : decode jdk_38_method_8_code 1 = .ok (.getfield 48, 3) := by decide +kernel
theorem own_d32_4 : decode jdk_38_method_8_code 4 = .ok (.ireturn, 1) := by decide +kernel
set_option maxRecDepth 65536 in
set_option maxHeartbeats 40000000 in
theorem rm_size (l : Launch) (Z : State) (a0 : Array Value) (hw : ∀ d ∈ tables_1, d.before a0 Z = true) (ws : List Jvm.Cond) (o : Addr) (sz : Int32) (h0 : Heap) (n0 : Nat) (Z0 : n0 ≤ h0.size) (F1 : Fld Z h0 o "java/util/ArrayList" "size" "I" (.int sz)) :
    MetFree l (⟨"java/util/ArrayList", "size", "()I"⟩ : MethodName) (head1 (Jvm.Cond.code (⟨"java/util/ArrayList", "size", "()I"⟩ : MethodName) jdk_38_method_8_code 1 (some .int) :: ws) ({ frames := 0, cells := 0, slots := 0, locals := 0 } : Room)) (fun aa U => aa = #[(.ref o)] ∧ Z.Warmed39 U.vm ∧ U.heap = h0) (fun _ _ _ _ _ => True) (fun _ U ou U' => ∃ v L, ou = .returned v ∧ Q_rm_size Z o sz h0 n0 v U'.heap L ∧ FrameEnd U ou U' L ({ frames := 0, cells := 0, slots := 0, locals := 0 } : Room).cells ({ frames := 0, cells := 0, slots := 0, locals := 0 } : Room).slots) := by
  refine MetFree.of_bodySF (plainFor_of_name own_pn4) hisR ?_
  intro p e s m args below meth c s₁ Bd hml0 hP hK
  obtain ⟨rfl, hZ, hh⟩ := hP
  have hx := Bd.exec
  have hby := Bd.bytes
  have hml : c.maxLocals = 1 := hml0
  have hown : s.vm.findClass "java/util/ArrayList" = some m.cls := findClass_of_methodNamed Bd.named
  have hnm := (name_of_methodNamed Bd.named Bd.method).1
  have X0 : Stand p l e ({ frames := 0, cells := 0, slots := 0, locals := 0 } : Room) s m #[(.ref o)] below meth c s₁ [] 0 0 := Stand.of_body Bd
  have e0 : s₁.heap = h0 := by rw [← hh, Bd.state]; rfl
  have N0 := Fr.nil n0
  show own_Go p e below (fun o u L => FrameEnd s o u L ({ frames := 0, cells := 0, slots := 0, locals := 0 } : Room).cells ({ frames := 0, cells := 0, slots := 0, locals := 0 } : Room).slots) (Q_rm_size Z o sz h0 n0) (s₁.setTop (entryFrame m #[(.ref o)] 1))
  rw [own_ef_rm_size m o]
  show own_Go _ _ _ _ _ (State.setTop _ (mkF _ 0 #[.val (.ref o)] []))
  refine own_aloadN X0 hx 1 rfl (hb hby own_d32_0) rfl rfl ?_
  refine own_getF X0 hx hZ (host := "") hown (Or.inl (own_hw hw 130 rfl)) Via.refl e0 F1 4 rfl (hb hby own_d32_1) fun T562 X562 e562 => ?_
  refine own_ret X562 (some (.int sz)) (fun h => by rw [Bd.returns] at h; cases h) Bd.notSynchronized (by decide) (by decide) ?_ (fun fs hr => own_retI X562 hx Bd.returns (hb hby own_d32_4) hr)
  show Q_rm_size Z o sz h0 n0 _ T562.heap _
  rw [e562]
  exact ⟨rfl, N0, rfl⟩
theorem own_ef_rm_usize (m : MethodId) (o : Addr) : entryFrame m #[(.ref o)] 1 = mkF m 0 #[.val (.ref o)] [] := by first | (simp [entryFrame, mkF, argsToLocals, Value.category]; done) | rfl
def Q_rm_usize (Z : State) (o : Addr) (li : Addr) (sz : Int32) (h0 : Heap) (n0 : Nat) (v : Option Value) (h : Heap) (L : List Loc) : Prop := v = some (.int sz) ∧ Fr n0 L ∧ h = h0
theorem own_d31_0 : decode jdk_119_method_2_code 0 = .ok (.aload_n 0, 1) := by decide +kernel
theorem own_d31_1 : decode jdk_119_method_2_code 1 = .ok (.getfield 10, 3) := by decide +kernel
theorem own_d31_4 : decode jdk_119_method_2_code 4 = .ok (.invokeinterface 16 1, 5) := by decide +kernel
theorem own_pd10 : parseMethodDescriptor "()I" = some ⟨[], some .int⟩ := by decide +kernel
theorem own_d31_9 : decode jdk_119_method_2_code 9 = .ok (.ireturn, 1) := by decide +kernel
set_option maxRecDepth 65536 in
set_option maxHeartbeats 40000000 in
theorem rm_usize (l : Launch) (Z : State) (a0 : Array Value) (hw : ∀ d ∈ tables_1, d.before a0 Z = true) (ws : List Jvm.Cond) (o : Addr) (li : Addr) (sz : Int32) (h0 : Heap) (n0 : Nat) (Z0 : n0 ≤ h0.size) (F0 : Fld Z h0 o "java/util/Collections$UnmodifiableCollection" "c" "Ljava/util/Collection;" (.ref li)) (E1 : Exa Z h0 li "java/util/ArrayList") (F1 : Fld Z h0 li "java/util/ArrayList" "size" "I" (.int sz)) :
    MetFree l (⟨"java/util/Collections$UnmodifiableCollection", "size", "()I"⟩ : MethodName) (head1 (Jvm.Cond.code (⟨"java/util/Collections$UnmodifiableCollection", "size", "()I"⟩ : MethodName) jdk_119_method_2_code 1 (some .int) :: ws) ({ frames := 1, cells := 0, slots := 0, locals := 12 } : Room)) (fun aa U => aa = #[(.ref o)] ∧ Z.Warmed39 U.vm ∧ U.heap = h0) (fun _ _ _ _ _ => True) (fun _ U ou U' => ∃ v L, ou = .returned v ∧ Q_rm_usize Z o li sz h0 n0 v U'.heap L ∧ FrameEnd U ou U' L ({ frames := 1, cells := 0, slots := 0, locals := 12 } : Room).cells ({ frames := 1, cells := 0, slots := 0, locals := 12 } : Room).slots) := by
  refine MetFree.of_bodySF (plainFor_of_name own_pn9) hisR ?_
  intro p e s m args below meth c s₁ Bd hml0 hP hK
  obtain ⟨rfl, hZ, hh⟩ := hP
  have hx := Bd.exec
  have hby := Bd.bytes
  have hml : c.maxLocals = 1 := hml0
  have hown : s.vm.findClass "java/util/Collections$UnmodifiableCollection" = some m.cls := findClass_of_methodNamed Bd.named
  have hnm := (name_of_methodNamed Bd.named Bd.method).1
  have X0 : Stand p l e ({ frames := 1, cells := 0, slots := 0, locals := 12 } : Room) s m #[(.ref o)] below meth c s₁ [] 0 0 := Stand.of_body Bd
  have e0 : s₁.heap = h0 := by rw [← hh, Bd.state]; rfl
  have N0 := Fr.nil n0
  show own_Go p e below (fun o u L => FrameEnd s o u L ({ frames := 1, cells := 0, slots := 0, locals := 12 } : Room).cells ({ frames := 1, cells := 0, slots := 0, locals := 12 } : Room).slots) (Q_rm_usize Z o li sz h0 n0) (s₁.setTop (entryFrame m #[(.ref o)] 1))
  rw [own_ef_rm_usize m o]
  show own_Go _ _ _ _ _ (State.setTop _ (mkF _ 0 #[.val (.ref o)] []))
  refine own_aloadN X0 hx 1 rfl (hb hby own_d31_0) rfl rfl ?_
  refine own_getF X0 hx hZ (host := "") hown (Or.inl (own_hw hw 197 rfl)) Via.refl e0 F0 4 rfl (hb hby own_d31_1) fun T563 X563 e563 => ?_
  refine own_iface X563 hx hZ (C := "java/util/ArrayList") (xi := (⟨"java/util/Collection", "size", "()I"⟩ : MethodName)) (y := (⟨"java/util/ArrayList", "size", "()I"⟩ : MethodName)) hown (own_hw hw 210 rfl) (own_hw hw 211 rfl) (own_hw hw 212 rfl) rfl (own_hw hw 213 rfl) (own_hw hw 214 rfl) (own_hw hw 215 rfl) (own_hw hw 216 rfl) (own_hw hw 217 rfl) (a := li) E1 (by decide) (rm_size l Z a0 hw [] li sz h0 n0 Z0 F1) (own_hw hw 218 rfl) (own_hw hw 55 rfl) (by decide) e563 (by rw [hml]; rfl) [] 0 (by decide) (Nat.le_of_eq rfl) (by decide) (by decide) (lenOf own_pd10 rfl) rfl rfl 9 rfl (hb hby own_d31_4) fun v564 T564 Lc564 X564 hQ564 => ?_
  obtain ⟨rfl, Nq564, e564⟩ := hQ564
  have N565 := Fr.app N0 Nq564
  show own_Go _ _ _ _ _ (State.setTop _ (mkF _ 9 _ [(.int sz)]))
  refine own_ret X564 (some (.int sz)) (fun h => by rw [Bd.returns] at h; cases h) Bd.notSynchronized (by decide) (by decide) ?_ (fun fs hr => own_retI X564 hx Bd.returns (hb hby own_d31_9) hr)
  show Q_rm_usize Z o li sz h0 n0 _ T564.heap _
  rw [e564]
  exact ⟨rfl, N565, rfl⟩
theorem own_pn13 : plainName "jdk/internal/util/Preconditions" = true := by first | (simp [plainName, overriddenIn]; done) | decide +kernel
theorem own_ef_rm_pci (m : MethodId) (i : Int32) (sz : Int32) : entryFrame m #[(.int i), (.int sz), .null] 3 = mkF m 0 #[.val (.int i), .val (.int sz), .val .null] [] := by first | (simp [entryFrame, mkF, argsToLocals, Value.category]; done) | rfl
def Q_rm_pci (Z : State) (i : Int32) (sz : Int32) (h0 : Heap) (n0 : Nat) (v : Option Value) (h : Heap) (L : List Loc) : Prop := v = some (.int i) ∧ Fr n0 L ∧ h = h0
theorem own_d36_0 : decode jdk_41_method_11_code 0 = .ok (.iload_n 0, 1) := by decide +kernel
theorem own_d36_1 : decode jdk_41_method_11_code 1 = .ok (.ifCond .lt 8, 3) := by decide +kernel
theorem own_d36_4 : decode jdk_41_method_11_code 4 = .ok (.iload_n 0, 1) := by decide +kernel
theorem own_d36_5 : decode jdk_41_method_11_code 5 = .ok (.iload_n 1, 1) := by decide +kernel
theorem own_d36_6 : decode jdk_41_method_11_code 6 = .ok (.if_icmp .lt 10, 3) := by decide +kernel
theorem own_d36_16 : decode jdk_41_method_11_code 16 = .ok (.iload_n 0, 1) := by decide +kernel
theorem own_d36_17 : decode jdk_41_method_11_code 17 = .ok (.ireturn, 1) := by decide +kernel
set_option maxRecDepth 65536 in
set_option maxHeartbeats 40000000 in
theorem rm_pci (l : Launch) (Z : State) (a0 : Array Value) (hw : ∀ d ∈ tables_1, d.before a0 Z = true) (ws : List Jvm.Cond) (i : Int32) (sz : Int32) (h0 : Heap) (n0 : Nat) (Z0 : n0 ≤ h0.size) (h1 : ¬ i < 0) (h2 : i < sz) :
    MetFree l (⟨"jdk/internal/util/Preconditions", "checkIndex", "(IILjava/util/function/BiFunction;)I"⟩ : MethodName) (head1 (Jvm.Cond.code (⟨"jdk/internal/util/Preconditions", "checkIndex", "(IILjava/util/function/BiFunction;)I"⟩ : MethodName) jdk_41_method_11_code 3 (some .int) :: ws) ({ frames := 0, cells := 0, slots := 0, locals := 0 } : Room)) (fun aa U => aa = #[(.int i), (.int sz), .null] ∧ Z.Warmed39 U.vm ∧ U.heap = h0) (fun _ _ _ _ _ => True) (fun _ U ou U' => ∃ v L, ou = .returned v ∧ Q_rm_pci Z i sz h0 n0 v U'.heap L ∧ FrameEnd U ou U' L ({ frames := 0, cells := 0, slots := 0, locals := 0 } : Room).cells ({ frames := 0, cells := 0, slots := 0, locals := 0 } : Room).slots) := by
  refine MetFree.of_bodySF (plainFor_of_name own_pn13) hisR ?_
  intro p e s m args below meth c s₁ Bd hml0 hP hK
  obtain ⟨rfl, hZ, hh⟩ := hP
  have hx := Bd.exec
  have hby := Bd.bytes
  have hml : c.maxLocals = 3 := hml0
  have hown : s.vm.findClass "jdk/internal/util/Preconditions" = some m.cls := findClass_of_methodNamed Bd.named
  have hnm := (name_of_methodNamed Bd.named Bd.method).1
  have X0 : Stand p l e ({ frames := 0, cells := 0, slots := 0, locals := 0 } : Room) s m #[(.int i), (.int sz), .null] below meth c s₁ [] 0 0 := Stand.of_body Bd
  have e0 : s₁.heap = h0 := by rw [← hh, Bd.state]; rfl
  have N0 := Fr.nil n0
  show own_Go p e below (fun o u L => FrameEnd s o u L ({ frames := 0, cells := 0, slots := 0, locals := 0 } : Room).cells ({ frames := 0, cells := 0, slots := 0, locals := 0 } : Room).slots) (Q_rm_pci Z i sz h0 n0) (s₁.setTop (entryFrame m #[(.int i), (.int sz), .null] 3))
  rw [own_ef_rm_pci m i sz]
  show own_Go _ _ _ _ _ (State.setTop _ (mkF _ 0 #[.val (.int i), .val (.int sz), .val .null] []))
  refine own_iloadN X0 hx 1 rfl (hb hby own_d36_0) rfl ?_
  refine own_ifNo X0 hx 4 rfl (hb hby own_d36_1) ((if0 _ _).trans (flt h1).1) ?_
  refine own_iloadN X0 hx 5 rfl (hb hby own_d36_4) rfl ?_
  refine own_iloadN X0 hx 6 rfl (hb hby own_d36_5) rfl ?_
  refine own_icmpYes X0 hx 16 (hb hby own_d36_6) (tlt h2).1 (by decide) rfl ?_
  refine own_iloadN X0 hx 17 rfl (hb hby own_d36_16) rfl ?_
  refine own_ret X0 (some (.int i)) (fun h => by rw [Bd.returns] at h; cases h) Bd.notSynchronized (by decide) (by decide) ?_ (fun fs hr => own_retI X0 hx Bd.returns (hb hby own_d36_17) hr)
  show Q_rm_pci Z i sz h0 n0 _ s₁.heap _
  rw [e0]
  exact ⟨rfl, N0, rfl⟩
theorem own_pn14 : plainName "java/util/Objects" = true := by first | (simp [plainName, overriddenIn]; done) | decide +kernel
theorem own_ef_rm_ci (m : MethodId) (i : Int32) (sz : Int32) : entryFrame m #[(.int i), (.int sz)] 2 = mkF m 0 #[.val (.int i), .val (.int sz)] [] := by first | (simp [entryFrame, mkF, argsToLocals, Value.category]; done) | rfl
def Q_rm_ci (Z : State) (i : Int32) (sz : Int32) (h0 : Heap) (n0 : Nat) (v : Option Value) (h : Heap) (L : List Loc) : Prop := v = some (.int i) ∧ Fr n0 L ∧ h = h0
theorem own_d35_0 : decode jdk_31_method_17_code 0 = .ok (.iload_n 0, 1) := by decide +kernel
theorem own_d35_1 : decode jdk_31_method_17_code 1 = .ok (.iload_n 1, 1) := by decide +kernel
theorem own_d35_2 : decode jdk_31_method_17_code 2 = .ok (.aconst_null, 1) := by decide +kernel
theorem own_d35_3 : decode jdk_31_method_17_code 3 = .ok (.invokestatic 105, 3) := by decide +kernel
theorem own_pd11 : parseMethodDescriptor "(IILjava/util/function/BiFunction;)I" = some ⟨[.int, .int, (.object "java/util/function/BiFunction")], some .int⟩ := by decide +kernel
theorem own_d35_6 : decode jdk_31_method_17_code 6 = .ok (.ireturn, 1) := by decide +kernel
set_option maxRecDepth 65536 in
set_option maxHeartbeats 40000000 in
theorem rm_ci (l : Launch) (Z : State) (a0 : Array Value) (hw : ∀ d ∈ tables_1, d.before a0 Z = true) (ws : List Jvm.Cond) (i : Int32) (sz : Int32) (h0 : Heap) (n0 : Nat) (Z0 : n0 ≤ h0.size) (h1 : ¬ i < 0) (h2 : i < sz) :
    MetFree l (⟨"java/util/Objects", "checkIndex", "(II)I"⟩ : MethodName) (head1 (Jvm.Cond.code (⟨"java/util/Objects", "checkIndex", "(II)I"⟩ : MethodName) jdk_31_method_17_code 2 (some .int) :: ws) ({ frames := 1, cells := 0, slots := 0, locals := 14 } : Room)) (fun aa U => aa = #[(.int i), (.int sz)] ∧ Z.Warmed39 U.vm ∧ U.heap = h0) (fun _ _ _ _ _ => True) (fun _ U ou U' => ∃ v L, ou = .returned v ∧ Q_rm_ci Z i sz h0 n0 v U'.heap L ∧ FrameEnd U ou U' L ({ frames := 1, cells := 0, slots := 0, locals := 14 } : Room).cells ({ frames := 1, cells := 0, slots := 0, locals := 14 } : Room).slots) := by
  refine MetFree.of_bodySF (plainFor_of_name own_pn14) hisR ?_
  intro p e s m args below meth c s₁ Bd hml0 hP hK
  obtain ⟨rfl, hZ, hh⟩ := hP
  have hx := Bd.exec
  have hby := Bd.bytes
  have hml : c.maxLocals = 2 := hml0
  have hown : s.vm.findClass "java/util/Objects" = some m.cls := findClass_of_methodNamed Bd.named
  have hnm := (name_of_methodNamed Bd.named Bd.method).1
  have X0 : Stand p l e ({ frames := 1, cells := 0, slots := 0, locals := 14 } : Room) s m #[(.int i), (.int sz)] below meth c s₁ [] 0 0 := Stand.of_body Bd
  have e0 : s₁.heap = h0 := by rw [← hh, Bd.state]; rfl
  have N0 := Fr.nil n0
  show own_Go p e below (fun o u L => FrameEnd s o u L ({ frames := 1, cells := 0, slots := 0, locals := 14 } : Room).cells ({ frames := 1, cells := 0, slots := 0, locals := 14 } : Room).slots) (Q_rm_ci Z i sz h0 n0) (s₁.setTop (entryFrame m #[(.int i), (.int sz)] 2))
  rw [own_ef_rm_ci m i sz]
  show own_Go _ _ _ _ _ (State.setTop _ (mkF _ 0 #[.val (.int i), .val (.int sz)] []))
  refine own_iloadN X0 hx 1 rfl (hb hby own_d35_0) rfl ?_
  refine own_iloadN X0 hx 2 rfl (hb hby own_d35_1) rfl ?_
  refine own_aconst_null X0 hx 3 rfl (hb hby own_d35_2) ?_
  refine own_callS X0 hx hZ (y := (⟨"jdk/internal/util/Preconditions", "checkIndex", "(IILjava/util/function/BiFunction;)I"⟩ : MethodName)) hown (own_hw hw 237 rfl) (own_hw hw 238 rfl) (by decide) (rm_pci l Z a0 hw [] i sz h0 n0 Z0 h1 h2) (own_hw hw 240 rfl) (own_hw hw 239 rfl) (by decide) e0 (by rw [hml]; rfl) [(.int i), (.int sz), .null] 0 (by decide) (Nat.le_of_eq rfl) (by decide) (by decide) (lenOf own_pd11 rfl) rfl rfl 6 rfl (hb hby own_d35_3) fun v566 T566 Lc566 X566 hQ566 => ?_
  obtain ⟨rfl, Nq566, e566⟩ := hQ566
  have N567 := Fr.app N0 Nq566
  show own_Go _ _ _ _ _ (State.setTop _ (mkF _ 6 _ [(.int i)]))
  refine own_ret X566 (some (.int i)) (fun h => by rw [Bd.returns] at h; cases h) Bd.notSynchronized (by decide) (by decide) ?_ (fun fs hr => own_retI X566 hx Bd.returns (hb hby own_d35_6) hr)
  show Q_rm_ci Z i sz h0 n0 _ T566.heap _
  rw [e566]
  exact ⟨rfl, N567, rfl⟩
theorem own_ef_rm_el (m : MethodId) (o : Addr) (i : Int32) : entryFrame m #[(.ref o), (.int i)] 2 = mkF m 0 #[.val (.ref o), .val (.int i)] [] := by first | (simp [entryFrame, mkF, argsToLocals, Value.category]; done) | rfl
def Q_rm_el (Z : State) (o : Addr) (i : Int32) (a : Addr) (ka : ClassId) (vs : List Value) (y : Addr) (h0 : Heap) (n0 : Nat) (v : Option Value) (h : Heap) (L : List Loc) : Prop := v = some (.ref y) ∧ Fr n0 L ∧ h = h0
theorem own_d37_0 : decode jdk_38_method_18_code 0 = .ok (.aload_n 0, 1) := by decide +kernel
theorem own_d37_1 : decode jdk_38_method_18_code 1 = .ok (.getfield 9, 3) := by decide +kernel
theorem own_d37_4 : decode jdk_38_method_18_code 4 = .ok (.iload_n 1, 1) := by decide +kernel
theorem own_d37_5 : decode jdk_38_method_18_code 5 = .ok (.aaload, 1) := by decide +kernel
theorem own_d37_6 : decode jdk_38_method_18_code 6 = .ok (.areturn, 1) := by decide +kernel
set_option maxRecDepth 65536 in
set_option maxHeartbeats 40000000 in
theorem rm_el (l : Launch) (Z : State) (a0 : Array Value) (hw : ∀ d ∈ tables_1, d.before a0 Z = true) (ws : List Jvm.Cond) (o : Addr) (i : Int32) (a : Addr) (ka : ClassId) (vs : List Value) (y : Addr) (h0 : Heap) (n0 : Nat) (Z0 : n0 ≤ h0.size) (F1 : Fld Z h0 o "java/util/ArrayList" "elementData" "[Ljava/lang/Object;" (.ref a)) (A1 : Arv Z h0 a ka (.object "java/lang/Object") (10 : Int32) vs .null) (inb : ¬ i < 0 ∧ i < (10 : Int32)) (hv : vs.getD i.toNatClampNeg .null = .ref y) :
    MetFree l (⟨"java/util/ArrayList", "elementData", "(I)Ljava/lang/Object;"⟩ : MethodName) (head1 (Jvm.Cond.code (⟨"java/util/ArrayList", "elementData", "(I)Ljava/lang/Object;"⟩ : MethodName) jdk_38_method_18_code 2 (some (.object "java/lang/Object")) :: ws) ({ frames := 0, cells := 0, slots := 0, locals := 0 } : Room)) (fun aa U => aa = #[(.ref o), (.int i)] ∧ Z.Warmed39 U.vm ∧ U.heap = h0) (fun _ _ _ _ _ => True) (fun _ U ou U' => ∃ v L, ou = .returned v ∧ Q_rm_el Z o i a ka vs y h0 n0 v U'.heap L ∧ FrameEnd U ou U' L ({ frames := 0, cells := 0, slots := 0, locals := 0 } : Room).cells ({ frames := 0, cells := 0, slots := 0, locals := 0 } : Room).slots) := by
  refine MetFree.of_bodySF (plainFor_of_name own_pn4) hisR ?_
  intro p e s m args below meth c s₁ Bd hml0 hP hK
  obtain ⟨rfl, hZ, hh⟩ := hP
  have hx := Bd.exec
  have hby := Bd.bytes
  have hml : c.maxLocals = 2 := hml0
  have hown : s.vm.findClass "java/util/ArrayList" = some m.cls := findClass_of_methodNamed Bd.named
  have hnm := (name_of_methodNamed Bd.named Bd.method).1
  have X0 : Stand p l e ({ frames := 0, cells := 0, slots := 0, locals := 0 } : Room) s m #[(.ref o), (.int i)] below meth c s₁ [] 0 0 := Stand.of_body Bd
  have e0 : s₁.heap = h0 := by rw [← hh, Bd.state]; rfl
  have N0 := Fr.nil n0
  show own_Go p e below (fun o u L => FrameEnd s o u L ({ frames := 0, cells := 0, slots := 0, locals := 0 } : Room).cells ({ frames := 0, cells := 0, slots := 0, locals := 0 } : Room).slots) (Q_rm_el Z o i a ka vs y h0 n0) (s₁.setTop (entryFrame m #[(.ref o), (.int i)] 2))
  rw [own_ef_rm_el m o i]
  show own_Go _ _ _ _ _ (State.setTop _ (mkF _ 0 #[.val (.ref o), .val (.int i)] []))
  refine own_aloadN X0 hx 1 rfl (hb hby own_d37_0) rfl rfl ?_
  refine own_getF X0 hx hZ (host := "") hown (Or.inl (own_hw hw 75 rfl)) Via.refl e0 F1 4 rfl (hb hby own_d37_1) fun T568 X568 e568 => ?_
  refine own_iloadN X568 hx 5 rfl (hb hby own_d37_4) rfl ?_
  refine own_ldR X568 hx hZ e568 A1 rfl inb y hv 6 rfl (hb hby own_d37_5) ?_
  refine own_ret X568 (some (.ref y)) (fun h => by rw [Bd.returns] at h; cases h) Bd.notSynchronized (by decide) (by decide) ?_ (fun fs hr => own_retR X568 hx Bd.returns rfl rfl (hb hby own_d37_6) hr)
  show Q_rm_el Z o i a ka vs y h0 n0 _ T568.heap _
  rw [e568]
  exact ⟨rfl, N0, rfl⟩
theorem own_ef_rm_get (m : MethodId) (o : Addr) (i : Int32) : entryFrame m #[(.ref o), (.int i)] 2 = mkF m 0 #[.val (.ref o), .val (.int i)] [] := by first | (simp [entryFrame, mkF, argsToLocals, Value.category]; done) | rfl
def Q_rm_get (Z : State) (o : Addr) (i : Int32) (sz : Int32) (a : Addr) (ka : ClassId) (vs : List Value) (y : Addr) (h0 : Heap) (n0 : Nat) (v : Option Value) (h : Heap) (L : List Loc) : Prop := v = some (.ref y) ∧ Fr n0 L ∧ h = h0
theorem own_d34_0 : decode jdk_38_method_20_code 0 = .ok (.iload_n 1, 1) := by decide +kernel
theorem own_d34_1 : decode jdk_38_method_20_code 1 = .ok (.aload_n 0, 1) := by decide +kernel
theorem own_d34_2 : decode jdk_38_method_20_code 2 = .ok (.getfield 48, 3) := by decide +kernel
theorem own_d34_5 : decode jdk_38_method_20_code 5 = .ok (.invokestatic 118, 3) := by decide +kernel
theorem own_d34_8 : decode jdk_38_method_20_code 8 = .ok (.pop, 1) := by decide +kernel
theorem own_d34_9 : decode jdk_38_method_20_code 9 = .ok (.aload_n 0, 1) := by decide +kernel
theorem own_d34_10 : decode jdk_38_method_20_code 10 = .ok (.iload_n 1, 1) := by decide +kernel
theorem own_d34_11 : decode jdk_38_method_20_code 11 = .ok (.invokevirtual 123, 3) := by decide +kernel
theorem own_pd12 : parseMethodDescriptor "(I)Ljava/lang/Object;" = some ⟨[.int], some (.object "java/lang/Object")⟩ := by decide +kernel
theorem own_d34_14 : decode jdk_38_method_20_code 14 = .ok (.areturn, 1) := by decide +kernel
set_option maxRecDepth 65536 in
set_option maxHeartbeats 40000000 in
theorem rm_get (l : Launch) (Z : State) (a0 : Array Value) (hw : ∀ d ∈ tables_1, d.before a0 Z = true) (ws : List Jvm.Cond) (o : Addr) (i : Int32) (sz : Int32) (a : Addr) (ka : ClassId) (vs : List Value) (y : Addr) (h0 : Heap) (n0 : Nat) (Z0 : n0 ≤ h0.size) (E1 : Exa Z h0 o "java/util/ArrayList") (F1 : Fld Z h0 o "java/util/ArrayList" "elementData" "[Ljava/lang/Object;" (.ref a)) (F2 : Fld Z h0 o "java/util/ArrayList" "size" "I" (.int sz)) (A1 : Arv Z h0 a ka (.object "java/lang/Object") (10 : Int32) vs .null) (h1 : ¬ i < 0) (h2 : i < sz) (inb : ¬ i < 0 ∧ i < (10 : Int32)) (hv : vs.getD i.toNatClampNeg .null = .ref y) :
    MetFree l (⟨"java/util/ArrayList", "get", "(I)Ljava/lang/Object;"⟩ : MethodName) (head1 (Jvm.Cond.code (⟨"java/util/ArrayList", "get", "(I)Ljava/lang/Object;"⟩ : MethodName) jdk_38_method_20_code 2 (some (.object "java/lang/Object")) :: ws) ({ frames := 2, cells := 0, slots := 0, locals := 30 } : Room)) (fun aa U => aa = #[(.ref o), (.int i)] ∧ Z.Warmed39 U.vm ∧ U.heap = h0) (fun _ _ _ _ _ => True) (fun _ U ou U' => ∃ v L, ou = .returned v ∧ Q_rm_get Z o i sz a ka vs y h0 n0 v U'.heap L ∧ FrameEnd U ou U' L ({ frames := 2, cells := 0, slots := 0, locals := 30 } : Room).cells ({ frames := 2, cells := 0, slots := 0, locals := 30 } : Room).slots) := by
  refine MetFree.of_bodySF (plainFor_of_name own_pn4) hisR ?_
  intro p e s m args below meth c s₁ Bd hml0 hP hK
  obtain ⟨rfl, hZ, hh⟩ := hP
  have hx := Bd.exec
  have hby := Bd.bytes
  have hml : c.maxLocals = 2 := hml0
  have hown : s.vm.findClass "java/util/ArrayList" = some m.cls := findClass_of_methodNamed Bd.named
  have hnm := (name_of_methodNamed Bd.named Bd.method).1
  have X0 : Stand p l e ({ frames := 2, cells := 0, slots := 0, locals := 30 } : Room) s m #[(.ref o), (.int i)] below meth c s₁ [] 0 0 := Stand.of_body Bd
  have e0 : s₁.heap = h0 := by rw [← hh, Bd.state]; rfl
  have N0 := Fr.nil n0
  show own_Go p e below (fun o u L => FrameEnd s o u L ({ frames := 2, cells := 0, slots := 0, locals := 30 } : Room).cells ({ frames := 2, cells := 0, slots := 0, locals := 30 } : Room).slots) (Q_rm_get Z o i sz a ka vs y h0 n0) (s₁.setTop (entryFrame m #[(.ref o), (.int i)] 2))
  rw [own_ef_rm_get m o i]
  show own_Go _ _ _ _ _ (State.setTop _ (mkF _ 0 #[.val (.ref o), .val (.int i)] []))
  refine own_iloadN X0 hx 1 rfl (hb hby own_d34_0) rfl ?_
  refine own_aloadN X0 hx 2 rfl (hb hby own_d34_1) rfl rfl ?_
  refine own_getF X0 hx hZ (host := "") hown (Or.inl (own_hw hw 130 rfl)) Via.refl e0 F2 5 rfl (hb hby own_d34_2) fun T569 X569 e569 => ?_
  refine own_callS X569 hx hZ (y := (⟨"java/util/Objects", "checkIndex", "(II)I"⟩ : MethodName)) hown (own_hw hw 233 rfl) (own_hw hw 234 rfl) (by decide) (rm_ci l Z a0 hw [] i sz h0 n0 Z0 h1 h2) (own_hw hw 236 rfl) (own_hw hw 235 rfl) (by decide) e569 (by rw [hml]; rfl) [(.int i), (.int sz)] 0 (by decide) (Nat.le_of_eq rfl) (by decide) (by decide) (lenOf own_pd1 rfl) rfl rfl 8 rfl (hb hby own_d34_5) fun v570 T570 Lc570 X570 hQ570 => ?_
  obtain ⟨rfl, Nq570, e570⟩ := hQ570
  have N571 := Fr.app N0 Nq570
  show own_Go _ _ _ _ _ (State.setTop _ (mkF _ 8 _ [(.int i)]))
  refine own_pop X570 hx 9 rfl (hb hby own_d34_8) rfl ?_
  refine own_aloadN X570 hx 10 rfl (hb hby own_d34_9) rfl rfl ?_
  refine own_iloadN X570 hx 11 rfl (hb hby own_d34_10) rfl ?_
  refine own_virtual X570 hx hZ (y := (⟨"java/util/ArrayList", "elementData", "(I)Ljava/lang/Object;"⟩ : MethodName)) (z := (⟨"java/util/ArrayList", "elementData", "(I)Ljava/lang/Object;"⟩ : MethodName)) hown (own_hw hw 241 rfl) (own_hw hw 242 rfl) (own_hw hw 244 rfl) (own_hw hw 243 rfl) rfl (a := o) E1 (by decide) (rm_el l Z a0 hw [] o i a ka vs y h0 n0 Z0 F1 A1 inb hv) (own_hw hw 245 rfl) (own_hw hw 55 rfl) (by decide) e570 (by rw [hml]; rfl) [(.int i)] 0 (by decide) (Nat.le_of_eq rfl) (by decide) (by decide) (lenOf own_pd12 rfl) rfl rfl 14 rfl (hb hby own_d34_11) fun v572 T572 Lc572 X572 hQ572 => ?_
  obtain ⟨rfl, Nq572, e572⟩ := hQ572
  have N573 := Fr.app N571 Nq572
  show own_Go _ _ _ _ _ (State.setTop _ (mkF _ 14 _ [(.ref y)]))
  refine own_ret X572 (some (.ref y)) (fun h => by rw [Bd.returns] at h; cases h) Bd.notSynchronized (by decide) (by decide) ?_ (fun fs hr => own_retR X572 hx Bd.returns rfl rfl (hb hby own_d34_14) hr)
  show Q_rm_get Z o i sz a ka vs y h0 n0 _ T572.heap _
  rw [e572]
  exact ⟨rfl, N573, rfl⟩
theorem own_ef_rm_uget (m : MethodId) (o : Addr) (i : Int32) : entryFrame m #[(.ref o), (.int i)] 2 = mkF m 0 #[.val (.ref o), .val (.int i)] [] := by first | (simp [entryFrame, mkF, argsToLocals, Value.category]; done) | rfl
def Q_rm_uget (Z : State) (o : Addr) (i : Int32) (li : Addr) (sz : Int32) (a : Addr) (ka : ClassId) (vs : List Value) (y : Addr) (h0 : Heap) (n0 : Nat) (v : Option Value) (h : Heap) (L : List Loc) : Prop := v = some (.ref y) ∧ Fr n0 L ∧ h = h0
theorem own_d33_0 : decode jdk_120_method_4_code 0 = .ok (.aload_n 0, 1) := by decide +kernel
theorem own_d33_1 : decode jdk_120_method_4_code 1 = .ok (.getfield 7, 3) := by decide +kernel
theorem own_d33_4 : decode jdk_120_method_4_code 4 = .ok (.iload_n 1, 1) := by decide +kernel
theorem own_d33_5 : decode jdk_120_method_4_code 5 = .ok (.invokeinterface 23 2, 5) := by decide +kernel
theorem own_d33_10 : decode jdk_120_method_4_code 10 = .ok (.areturn, 1) := by decide +kernel
set_option maxRecDepth 65536 in
set_option maxHeartbeats 40000000 in
theorem rm_uget (l : Launch) (Z : State) (a0 : Array Value) (hw : ∀ d ∈ tables_1, d.before a0 Z = true) (ws : List Jvm.Cond) (o : Addr) (i : Int32) (li : Addr) (sz : Int32) (a : Addr) (ka : ClassId) (vs : List Value) (y : Addr) (h0 : Heap) (n0 : Nat) (Z0 : n0 ≤ h0.size) (F0 : Fld Z h0 o "java/util/Collections$UnmodifiableList" "list" "Ljava/util/List;" (.ref li)) (E1 : Exa Z h0 li "java/util/ArrayList") (F1 : Fld Z h0 li "java/util/ArrayList" "elementData" "[Ljava/lang/Object;" (.ref a)) (F2 : Fld Z h0 li "java/util/ArrayList" "size" "I" (.int sz)) (A1 : Arv Z h0 a ka (.object "java/lang/Object") (10 : Int32) vs .null) (h1 : ¬ i < 0) (h2 : i < sz) (inb : ¬ i < 0 ∧ i < (10 : Int32)) (hv : vs.getD i.toNatClampNeg .null = .ref y) :
    MetFree l (⟨"java/util/Collections$UnmodifiableList", "get", "(I)Ljava/lang/Object;"⟩ : MethodName) (head1 (Jvm.Cond.code (⟨"java/util/Collections$UnmodifiableList", "get", "(I)Ljava/lang/Object;"⟩ : MethodName) jdk_120_method_4_code 2 (some (.object "java/lang/Object")) :: ws) ({ frames := 3, cells := 0, slots := 0, locals := 45 } : Room)) (fun aa U => aa = #[(.ref o), (.int i)] ∧ Z.Warmed39 U.vm ∧ U.heap = h0) (fun _ _ _ _ _ => True) (fun _ U ou U' => ∃ v L, ou = .returned v ∧ Q_rm_uget Z o i li sz a ka vs y h0 n0 v U'.heap L ∧ FrameEnd U ou U' L ({ frames := 3, cells := 0, slots := 0, locals := 45 } : Room).cells ({ frames := 3, cells := 0, slots := 0, locals := 45 } : Room).slots) := by
  refine MetFree.of_bodySF (plainFor_of_name own_pn10) hisR ?_
  intro p e s m args below meth c s₁ Bd hml0 hP hK
  obtain ⟨rfl, hZ, hh⟩ := hP
  have hx := Bd.exec
  have hby := Bd.bytes
  have hml : c.maxLocals = 2 := hml0
  have hown : s.vm.findClass "java/util/Collections$UnmodifiableList" = some m.cls := findClass_of_methodNamed Bd.named
  have hnm := (name_of_methodNamed Bd.named Bd.method).1
  have X0 : Stand p l e ({ frames := 3, cells := 0, slots := 0, locals := 45 } : Room) s m #[(.ref o), (.int i)] below meth c s₁ [] 0 0 := Stand.of_body Bd
  have e0 : s₁.heap = h0 := by rw [← hh, Bd.state]; rfl
  have N0 := Fr.nil n0
  show own_Go p e below (fun o u L => FrameEnd s o u L ({ frames := 3, cells := 0, slots := 0, locals := 45 } : Room).cells ({ frames := 3, cells := 0, slots := 0, locals := 45 } : Room).slots) (Q_rm_uget Z o i li sz a ka vs y h0 n0) (s₁.setTop (entryFrame m #[(.ref o), (.int i)] 2))
  rw [own_ef_rm_uget m o i]
  show own_Go _ _ _ _ _ (State.setTop _ (mkF _ 0 #[.val (.ref o), .val (.int i)] []))
  refine own_aloadN X0 hx 1 rfl (hb hby own_d33_0) rfl rfl ?_
  refine own_getF X0 hx hZ (host := "") hown (Or.inl (own_hw hw 199 rfl)) Via.refl e0 F0 4 rfl (hb hby own_d33_1) fun T574 X574 e574 => ?_
  refine own_iloadN X574 hx 5 rfl (hb hby own_d33_4) rfl ?_
  refine own_iface X574 hx hZ (C := "java/util/ArrayList") (xi := (⟨"java/util/List", "get", "(I)Ljava/lang/Object;"⟩ : MethodName)) (y := (⟨"java/util/ArrayList", "get", "(I)Ljava/lang/Object;"⟩ : MethodName)) hown (own_hw hw 227 rfl) (own_hw hw 220 rfl) (own_hw hw 221 rfl) rfl (own_hw hw 228 rfl) (own_hw hw 229 rfl) (own_hw hw 230 rfl) (own_hw hw 231 rfl) (own_hw hw 126 rfl) (a := li) E1 (by decide) (rm_get l Z a0 hw [] li i sz a ka vs y h0 n0 Z0 E1 F1 F2 A1 h1 h2 inb hv) (own_hw hw 232 rfl) (own_hw hw 55 rfl) (by decide) e574 (by rw [hml]; rfl) [(.int i)] 0 (by decide) (Nat.le_of_eq rfl) (by decide) (by decide) (lenOf own_pd12 rfl) rfl rfl 10 rfl (hb hby own_d33_5) fun v575 T575 Lc575 X575 hQ575 => ?_
  obtain ⟨rfl, Nq575, e575⟩ := hQ575
  have N576 := Fr.app N0 Nq575
  show own_Go _ _ _ _ _ (State.setTop _ (mkF _ 10 _ [(.ref y)]))
  refine own_ret X575 (some (.ref y)) (fun h => by rw [Bd.returns] at h; cases h) Bd.notSynchronized (by decide) (by decide) ?_ (fun fs hr => own_retR X575 hx Bd.returns rfl rfl (hb hby own_d33_10) hr)
  show Q_rm_uget Z o i li sz a ka vs y h0 n0 _ T575.heap _
  rw [e575]
  exact ⟨rfl, N576, rfl⟩
theorem own_pn15 : plainName "java/lang/StringLatin1" = true := by first | (simp [plainName, overriddenIn]; done) | decide +kernel
theorem own_ef_rm_canenc (m : MethodId) (c1 : Int32) : entryFrame m #[(.int c1)] 1 = mkF m 0 #[.val (.int c1)] [] := by first | (simp [entryFrame, mkF, argsToLocals, Value.category]; done) | rfl
def Q_rm_canenc (Z : State) (c1 : Int32) (h0 : Heap) (n0 : Nat) (v : Option Value) (h : Heap) (L : List Loc) : Prop := v = some (.int (1 : Int32)) ∧ Fr n0 L ∧ h = h0
theorem own_d8_0 : decode jdk_43_method_3_code 0 = .ok (.iload_n 0, 1) := by decide +kernel
theorem own_d8_1 : decode jdk_43_method_3_code 1 = .ok (.sipush 255, 3) := by decide +kernel
theorem own_d8_4 : decode jdk_43_method_3_code 4 = .ok (.if_icmp .gt 7, 3) := by decide +kernel
theorem own_d8_7 : decode jdk_43_method_3_code 7 = .ok (.iconst 1, 1) := by decide +kernel
theorem own_d8_8 : decode jdk_43_method_3_code 8 = .ok (.goto 4, 3) := by decide +kernel
theorem own_d8_12 : decode jdk_43_method_3_code 12 = .ok (.ireturn, 1) := by decide +kernel
set_option maxRecDepth 65536 in
set_option maxHeartbeats 40000000 in
theorem rm_canenc (l : Launch) (Z : State) (a0 : Array Value) (hw : ∀ d ∈ tables_1, d.before a0 Z = true) (ws : List Jvm.Cond) (c1 : Int32) (h0 : Heap) (n0 : Nat) (Z0 : n0 ≤ h0.size) (hc : ¬ (255 : Int32) < c1) :
    MetFree l (⟨"java/lang/StringLatin1", "canEncode", "(C)Z"⟩ : MethodName) (head1 (Jvm.Cond.code (⟨"java/lang/StringLatin1", "canEncode", "(C)Z"⟩ : MethodName) jdk_43_method_3_code 1 (some .boolean) :: ws) ({ frames := 0, cells := 0, slots := 0, locals := 0 } : Room)) (fun aa U => aa = #[(.int c1)] ∧ Z.Warmed39 U.vm ∧ U.heap = h0) (fun _ _ _ _ _ => True) (fun _ U ou U' => ∃ v L, ou = .returned v ∧ Q_rm_canenc Z c1 h0 n0 v U'.heap L ∧ FrameEnd U ou U' L ({ frames := 0, cells := 0, slots := 0, locals := 0 } : Room).cells ({ frames := 0, cells := 0, slots := 0, locals := 0 } : Room).slots) := by
  refine MetFree.of_bodySF (plainFor_of_name own_pn15) hisR ?_
  intro p e s m args below meth c s₁ Bd hml0 hP hK
  obtain ⟨rfl, hZ, hh⟩ := hP
  have hx := Bd.exec
  have hby := Bd.bytes
  have hml : c.maxLocals = 1 := hml0
  have hown : s.vm.findClass "java/lang/StringLatin1" = some m.cls := findClass_of_methodNamed Bd.named
  have hnm := (name_of_methodNamed Bd.named Bd.method).1
  have X0 : Stand p l e ({ frames := 0, cells := 0, slots := 0, locals := 0 } : Room) s m #[(.int c1)] below meth c s₁ [] 0 0 := Stand.of_body Bd
  have e0 : s₁.heap = h0 := by rw [← hh, Bd.state]; rfl
  have N0 := Fr.nil n0
  show own_Go p e below (fun o u L => FrameEnd s o u L ({ frames := 0, cells := 0, slots := 0, locals := 0 } : Room).cells ({ frames := 0, cells := 0, slots := 0, locals := 0 } : Room).slots) (Q_rm_canenc Z c1 h0 n0) (s₁.setTop (entryFrame m #[(.int c1)] 1))
  rw [own_ef_rm_canenc m c1]
  show own_Go _ _ _ _ _ (State.setTop _ (mkF _ 0 #[.val (.int c1)] []))
  refine own_iloadN X0 hx 1 rfl (hb hby own_d8_0) rfl ?_
  refine own_sipush X0 hx 4 rfl (hb hby own_d8_1) (255 : Int32) rfl ?_
  refine own_icmpNo X0 hx 7 rfl (hb hby own_d8_4) (flt hc).2.2.1 ?_
  refine own_iconst X0 hx 8 rfl (hb hby own_d8_7) (1 : Int32) rfl ?_
  refine own_goto X0 hx 12 (hb hby own_d8_8) (by decide) rfl ?_
  refine own_ret X0 (some (.int (1 : Int32))) (fun h => by rw [Bd.returns] at h; cases h) Bd.notSynchronized (by decide) (by decide) ?_ (fun fs hr => retN X0 hx (t := .boolean) Bd.returns (by simp) (hb hby own_d8_12) hr)
  show Q_rm_canenc Z c1 h0 n0 _ s₁.heap _
  rw [e0]
  exact ⟨rfl, N0, rfl⟩
theorem own_ef_rm_tobytes (m : MethodId) (c1 : Int32) : entryFrame m #[(.int c1)] 1 = mkF m 0 #[.val (.int c1)] [] := by first | (simp [entryFrame, mkF, argsToLocals, Value.category]; done) | rfl
def Q_rm_tobytes (Z : State) (c1 : Int32) (h0 : Heap) (n0 : Nat) (v : Option Value) (h : Heap) (L : List Loc) : Prop := ∃ r : Addr, v = some (.ref r) ∧ Fr n0 L ∧ Keep h0 h [] ∧ h0.size ≤ r
theorem own_d9_0 : decode jdk_43_method_46_code 0 = .ok (.iconst 1, 1) := by decide +kernel
theorem own_d9_1 : decode jdk_43_method_46_code 1 = .ok (.newarray .byte, 2) := by decide +kernel
theorem own_d9_3 : decode jdk_43_method_46_code 3 = .ok (.dup, 1) := by decide +kernel
theorem own_d9_4 : decode jdk_43_method_46_code 4 = .ok (.iconst 0, 1) := by decide +kernel
theorem own_d9_5 : decode jdk_43_method_46_code 5 = .ok (.iload_n 0, 1) := by decide +kernel
theorem own_d9_6 : decode jdk_43_method_46_code 6 = .ok (.i2b, 1) := by decide +kernel
theorem own_d9_7 : decode jdk_43_method_46_code 7 = .ok (.bastore, 1) := by decide +kernel
theorem own_d9_8 : decode jdk_43_method_46_code 8 = .ok (.areturn, 1) := by decide +kernel
set_option maxRecDepth 65536 in
set_option maxHeartbeats 40000000 in
theorem rm_tobytes (l : Launch) (Z : State) (a0 : Array Value) (hw : ∀ d ∈ tables_1, d.before a0 Z = true) (ws : List Jvm.Cond) (c1 : Int32) (h0 : Heap) (n0 : Nat) (Z0 : n0 ≤ h0.size)  :
    MetFree l (⟨"java/lang/StringLatin1", "toBytes", "(C)[B"⟩ : MethodName) (head1 (Jvm.Cond.code (⟨"java/lang/StringLatin1", "toBytes", "(C)[B"⟩ : MethodName) jdk_43_method_46_code 1 (some (.array .byte)) :: ws) ({ frames := 0, cells := 1, slots := 1, locals := 0 } : Room)) (fun aa U => aa = #[(.int c1)] ∧ Z.Warmed39 U.vm ∧ U.heap = h0) (fun _ _ _ _ _ => True) (fun _ U ou U' => ∃ v L, ou = .returned v ∧ Q_rm_tobytes Z c1 h0 n0 v U'.heap L ∧ FrameEnd U ou U' L ({ frames := 0, cells := 1, slots := 1, locals := 0 } : Room).cells ({ frames := 0, cells := 1, slots := 1, locals := 0 } : Room).slots) := by
  refine MetFree.of_bodySF (plainFor_of_name own_pn15) hisR ?_
  intro p e s m args below meth c s₁ Bd hml0 hP hK
  obtain ⟨rfl, hZ, hh⟩ := hP
  have hx := Bd.exec
  have hby := Bd.bytes
  have hml : c.maxLocals = 1 := hml0
  have hown : s.vm.findClass "java/lang/StringLatin1" = some m.cls := findClass_of_methodNamed Bd.named
  have hnm := (name_of_methodNamed Bd.named Bd.method).1
  have X0 : Stand p l e ({ frames := 0, cells := 1, slots := 1, locals := 0 } : Room) s m #[(.int c1)] below meth c s₁ [] 0 0 := Stand.of_body Bd
  have e0 : s₁.heap = h0 := by rw [← hh, Bd.state]; rfl
  have N0 := Fr.nil n0
  have K0 := Keep.refl h0 []
  show own_Go p e below (fun o u L => FrameEnd s o u L ({ frames := 0, cells := 1, slots := 1, locals := 0 } : Room).cells ({ frames := 0, cells := 1, slots := 1, locals := 0 } : Room).slots) (Q_rm_tobytes Z c1 h0 n0) (s₁.setTop (entryFrame m #[(.int c1)] 1))
  rw [own_ef_rm_tobytes m c1]
  show own_Go _ _ _ _ _ (State.setTop _ (mkF _ 0 #[.val (.int c1)] []))
  refine own_iconst X0 hx 1 rfl (hb hby own_d9_0) (1 : Int32) rfl ?_
  refine own_newA X0 hx hZ (own_hw hw 19 rfl) e0 3 rfl (hb hby own_d9_1) (by decide) 1 (by decide) (by decide) (by decide) (by decide) "[B" (by decide) fun T577 h577 k577 b577 g577 X577 e577 E577 A577 C577 => ?_
  have ge578 : n0 ≤ b577 := Nat.le_trans Z0 (Nat.le_of_eq g577.symm)
  have sz579 : h0.size ≤ b577 := Nat.le_trans K0.1 (Nat.le_of_eq g577.symm)
  have z580 := Nat.le_trans Z0 E577.1
  have K581 := K0.ext E577
  have f582 : Arv Z h577 b577 k577 .byte (1 : Int32) [(.int (0 : Int32))] (.int (0 : Int32)) := (Arv.new A577 (by decide)).pad (pad_rep [] (.int (0 : Int32)) 1)
  refine own_dup X577 hx 4 rfl (hb hby own_d9_3) rfl ?_
  refine own_iconst X577 hx 5 rfl (hb hby own_d9_4) (0 : Int32) rfl ?_
  refine own_iloadN X577 hx 6 rfl (hb hby own_d9_5) rfl ?_
  refine own_i2b X577 hx 7 rfl (hb hby own_d9_6) _ rfl ?_
  refine own_stB X577 hx hZ e577 f582 ⟨by decide, by decide⟩ 0 rfl (Nat.le_of_ble_eq_true rfl) [(.int c1.toInt8.toInt32.toInt8.toInt32)] rfl 8 rfl (hb hby own_d9_7) fun T583 h583 X583 e583 W583 f584 => ?_
  have f585 := C577.wr W583
  have z586 := Nat.le_trans z580 (Keep.of_wr W583).1
  have K587 := K581.wr W583 (Or.inr sz579)
  have N588 := Fr.snoc X583 N0 ge578
  refine own_ret X583 (some (.ref b577)) (fun h => by rw [Bd.returns] at h; cases h) Bd.notSynchronized (by decide) (by decide) ?_ (fun fs hr => own_retR X583 hx Bd.returns rfl rfl (hb hby own_d9_8) hr)
  show Q_rm_tobytes Z c1 h0 n0 _ T583.heap _
  rw [e583]
  exact ⟨b577, rfl, N588, K587, sz579⟩
theorem own_pn16 : plainName "java/lang/String" = true := by first | (simp [plainName, overriddenIn]; done) | decide +kernel
theorem own_ef_rm_strinit (m : MethodId) (o : Addr) (b : Addr) : entryFrame m #[(.ref o), (.ref b), (.int (0 : Int32))] 3 = mkF m 0 #[.val (.ref o), .val (.ref b), .val (.int (0 : Int32))] [] := by first | (simp [entryFrame, mkF, argsToLocals, Value.category]; done) | rfl
def Q_rm_strinit (Z : State) (o : Addr) (b : Addr) (h0 : Heap) (n0 : Nat) (v : Option Value) (h : Heap) (L : List Loc) : Prop := v = none ∧ Fr n0 L ∧ Keep h0 h [o] ∧ Exa Z h o "java/lang/String"
theorem own_d10_0 : decode jdk_42_method_151_code 0 = .ok (.aload_n 0, 1) := by decide +kernel
theorem own_d10_1 : decode jdk_42_method_151_code 1 = .ok (.invokespecial 1, 3) := by decide +kernel
theorem own_d10_4 : decode jdk_42_method_151_code 4 = .ok (.aload_n 0, 1) := by decide +kernel
theorem own_d10_5 : decode jdk_42_method_151_code 5 = .ok (.aload_n 1, 1) := by decide +kernel
theorem own_d10_6 : decode jdk_42_method_151_code 6 = .ok (.putfield 9, 3) := by decide +kernel
theorem own_d10_9 : decode jdk_42_method_151_code 9 = .ok (.aload_n 0, 1) := by decide +kernel
theorem own_d10_10 : decode jdk_42_method_151_code 10 = .ok (.iload_n 2, 1) := by decide +kernel
theorem own_d10_11 : decode jdk_42_method_151_code 11 = .ok (.putfield 15, 3) := by decide +kernel
theorem own_d10_14 : decode jdk_42_method_151_code 14 = .ok (.return_, 1) := by decide +kernel
set_option maxRecDepth 65536 in
set_option maxHeartbeats 40000000 in
theorem rm_strinit (l : Launch) (Z : State) (a0 : Array Value) (hw : ∀ d ∈ tables_1, d.before a0 Z = true) (ws : List Jvm.Cond) (o : Addr) (b : Addr) (h0 : Heap) (n0 : Nat) (Z0 : n0 ≤ h0.size) (E1 : Exa Z h0 o "java/lang/String") (F1 : Fld Z h0 o "java/lang/String" "value" "[B" .null) (F2 : Fld Z h0 o "java/lang/String" "coder" "B" (.int (0 : Int32))) (g_o : n0 ≤ o) :
    MetFree l (⟨"java/lang/String", "<init>", "([BB)V"⟩ : MethodName) (head1 (Jvm.Cond.code (⟨"java/lang/String", "<init>", "([BB)V"⟩ : MethodName) jdk_42_method_151_code 3 none :: ws) ({ frames := 1, cells := 0, slots := 0, locals := 12 } : Room)) (fun aa U => aa = #[(.ref o), (.ref b), (.int (0 : Int32))] ∧ Z.Warmed39 U.vm ∧ U.heap = h0) (fun _ _ _ _ _ => True) (fun _ U ou U' => ∃ v L, ou = .returned v ∧ Q_rm_strinit Z o b h0 n0 v U'.heap L ∧ FrameEnd U ou U' L ({ frames := 1, cells := 0, slots := 0, locals := 12 } : Room).cells ({ frames := 1, cells := 0, slots := 0, locals := 12 } : Room).slots) := by
  refine MetFree.of_bodySF (plainFor_of_name own_pn16) hisR ?_
  intro p e s m args below meth c s₁ Bd hml0 hP hK
  obtain ⟨rfl, hZ, hh⟩ := hP
  have hx := Bd.exec
  have hby := Bd.bytes
  have hml : c.maxLocals = 3 := hml0
  have hown : s.vm.findClass "java/lang/String" = some m.cls := findClass_of_methodNamed Bd.named
  have hnm := (name_of_methodNamed Bd.named Bd.method).1
  have X0 : Stand p l e ({ frames := 1, cells := 0, slots := 0, locals := 12 } : Room) s m #[(.ref o), (.ref b), (.int (0 : Int32))] below meth c s₁ [] 0 0 := Stand.of_body Bd
  have e0 : s₁.heap = h0 := by rw [← hh, Bd.state]; rfl
  have N0 := Fr.nil n0
  have K0 := Keep.refl h0 [o]
  show own_Go p e below (fun o u L => FrameEnd s o u L ({ frames := 1, cells := 0, slots := 0, locals := 12 } : Room).cells ({ frames := 1, cells := 0, slots := 0, locals := 12 } : Room).slots) (Q_rm_strinit Z o b h0 n0) (s₁.setTop (entryFrame m #[(.ref o), (.ref b), (.int (0 : Int32))] 3))
  rw [own_ef_rm_strinit m o b]
  show own_Go _ _ _ _ _ (State.setTop _ (mkF _ 0 #[.val (.ref o), .val (.ref b), .val (.int (0 : Int32))] []))
  refine own_aloadN X0 hx 1 rfl (hb hby own_d10_0) rfl rfl ?_
  refine own_initO X0 hx hZ hown (own_hw hw 11 rfl) (own_hw hw 12 rfl) (own_hw hw 13 rfl) e0 (by rw [hml]; rfl) 4 rfl (hb hby own_d10_1) (by decide) 0 (Nat.le_of_eq rfl) (by decide) fun T589 X589 e589 => ?_
  refine own_aloadN X589 hx 5 rfl (hb hby own_d10_4) rfl rfl ?_
  refine own_aloadN X589 hx 6 rfl (hb hby own_d10_5) rfl rfl ?_
  refine own_putF X589 hx hZ (host := "") hown (Or.inl (own_hw hw 28 rfl)) Via.refl e589 F1 E1 (Or.inr ⟨(own_hw hw 29 rfl), rfl, hnm⟩) (own_hw hw 2 rfl) (ty := (.array .byte)) (by decide) rfl rfl 9 rfl (hb hby own_d10_6) fun T590 h590 X590 e590 W590 => ?_
  have f591 := E1.wr W590
  have f592 := F2.other W590 (Or.inr (slot_ne (Or.inr (own_hw hw 27 rfl)) (Or.inr (own_hw hw 29 rfl)) (by decide) (t := .byte) (t' := (.array .byte)) (by decide) (by decide)))
  have z593 := Nat.le_trans Z0 (Keep.of_wr W590).1
  have K594 := K0.wr W590 (Or.inl (List.mem_of_getElem? (i := 0) rfl))
  have f595 := F1.same W590
  have N596 := Fr.snoc X590 N0 g_o
  refine own_aloadN X590 hx 10 rfl (hb hby own_d10_9) rfl rfl ?_
  refine own_iloadN X590 hx 11 rfl (hb hby own_d10_10) rfl ?_
  refine own_putFN X590 hx hZ hown (own_hw hw 26 rfl) Via.refl e590 f592 f591 (Or.inr ⟨(own_hw hw 27 rfl), rfl, hnm⟩) (own_hw hw 2 rfl) (ty := .byte) (v' := (.int (0 : Int32))) (by decide) rfl rfl 14 rfl (hb hby own_d10_11) fun T597 h597 X597 e597 W597 => ?_
  have f598 := f591.wr W597
  have f599 := f595.other W597 (Or.inr (slot_ne (Or.inr (own_hw hw 29 rfl)) (Or.inr (own_hw hw 27 rfl)) (by decide) (t := (.array .byte)) (t' := .byte) (by decide) (by decide)))
  have z600 := Nat.le_trans z593 (Keep.of_wr W597).1
  have K601 := K594.wr W597 (Or.inl (List.mem_of_getElem? (i := 0) rfl))
  have f602 := f592.same W597
  have N603 := Fr.snoc X597 N596 g_o
  refine own_ret X597 none (fun _ => rfl) Bd.notSynchronized (by decide) (by decide) ?_ (fun fs hr => X597.returnOut hx Bd.returns (hb hby own_d10_14) hr)
  show Q_rm_strinit Z o b h0 n0 _ T597.heap _
  rw [e597]
  exact ⟨rfl, N603, K601, f598⟩
theorem own_ef_rm_valueof (m : MethodId) (c1 : Int32) : entryFrame m #[(.int c1)] 1 = mkF m 0 #[.val (.int c1)] [] := by first | (simp [entryFrame, mkF, argsToLocals, Value.category]; done) | rfl
def Q_rm_valueof (Z : State) (c1 : Int32) (cs : Int32) (h0 : Heap) (n0 : Nat) (v : Option Value) (h : Heap) (L : List Loc) : Prop := ∃ (r : Addr), v = some (.ref r) ∧ Fr n0 L ∧ Keep h0 h [] ∧ h0.size ≤ r ∧ Exa Z h r "java/lang/String"
theorem own_d7_0 : decode jdk_42_method_139_code 0 = .ok (.getstatic 38, 3) := by decide +kernel
theorem own_d7_3 : decode jdk_42_method_139_code 3 = .ok (.ifCond .eq 23, 3) := by decide +kernel
theorem own_d7_6 : decode jdk_42_method_139_code 6 = .ok (.iload_n 0, 1) := by decide +kernel
theorem own_d7_7 : decode jdk_42_method_139_code 7 = .ok (.invokestatic 1015, 3) := by decide +kernel
theorem own_pd13 : parseMethodDescriptor "(C)Z" = some ⟨[.char], some .boolean⟩ := by decide +kernel
theorem own_d7_10 : decode jdk_42_method_139_code 10 = .ok (.ifCond .eq 16, 3) := by decide +kernel
theorem own_d7_13 : decode jdk_42_method_139_code 13 = .ok (.new 10, 3) := by decide +kernel
theorem own_d7_16 : decode jdk_42_method_139_code 16 = .ok (.dup, 1) := by decide +kernel
theorem own_d7_17 : decode jdk_42_method_139_code 17 = .ok (.iload_n 0, 1) := by decide +kernel
theorem own_d7_18 : decode jdk_42_method_139_code 18 = .ok (.invokestatic 1018, 3) := by decide +kernel
theorem own_pd14 : parseMethodDescriptor "(C)[B" = some ⟨[.char], some (.array .byte)⟩ := by decide +kernel
theorem own_d7_21 : decode jdk_42_method_139_code 21 = .ok (.iconst 0, 1) := by decide +kernel
theorem own_d7_22 : decode jdk_42_method_139_code 22 = .ok (.invokespecial 209, 3) := by decide +kernel
theorem own_pd15 : parseMethodDescriptor "([BB)V" = some ⟨[(.array .byte), .byte], none⟩ := by decide +kernel
theorem own_d7_25 : decode jdk_42_method_139_code 25 = .ok (.areturn, 1) := by decide +kernel
set_option maxRecDepth 65536 in
set_option maxHeartbeats 40000000 in
theorem rm_valueof (l : Launch) (Z : State) (a0 : Array Value) (hw : ∀ d ∈ tables_1, d.before a0 Z = true) (ws : List Jvm.Cond) (c1 : Int32) (cs : Int32) (h0 : Heap) (n0 : Nat) (Z0 : n0 ≤ h0.size) (S1 : Sta Z h0 "java/lang/String" "COMPACT_STRINGS" "Z" (.int cs)) (hcs : ¬ cs = 0) (hc : ¬ (255 : Int32) < c1) :
    MetFree l (⟨"java/lang/String", "valueOf", "(C)Ljava/lang/String;"⟩ : MethodName) (head1 (Jvm.Cond.code (⟨"java/lang/String", "valueOf", "(C)Ljava/lang/String;"⟩ : MethodName) jdk_42_method_139_code 1 (some (.object "java/lang/String")) :: ws) ({ frames := 2, cells := 2, slots := 5, locals := 40 } : Room)) (fun aa U => aa = #[(.int c1)] ∧ Z.Warmed39 U.vm ∧ U.heap = h0) (fun _ _ _ _ _ => True) (fun _ U ou U' => ∃ v L, ou = .returned v ∧ Q_rm_valueof Z c1 cs h0 n0 v U'.heap L ∧ FrameEnd U ou U' L ({ frames := 2, cells := 2, slots := 5, locals := 40 } : Room).cells ({ frames := 2, cells := 2, slots := 5, locals := 40 } : Room).slots) := by
  refine MetFree.of_bodySF (plainFor_of_name own_pn16) hisR ?_
  intro p e s m args below meth c s₁ Bd hml0 hP hK
  obtain ⟨rfl, hZ, hh⟩ := hP
  have hx := Bd.exec
  have hby := Bd.bytes
  have hml : c.maxLocals = 1 := hml0
  have hown : s.vm.findClass "java/lang/String" = some m.cls := findClass_of_methodNamed Bd.named
  have hnm := (name_of_methodNamed Bd.named Bd.method).1
  have X0 : Stand p l e ({ frames := 2, cells := 2, slots := 5, locals := 40 } : Room) s m #[(.int c1)] below meth c s₁ [] 0 0 := Stand.of_body Bd
  have e0 : s₁.heap = h0 := by rw [← hh, Bd.state]; rfl
  have N0 := Fr.nil n0
  have K0 := Keep.refl h0 []
  show own_Go p e below (fun o u L => FrameEnd s o u L ({ frames := 2, cells := 2, slots := 5, locals := 40 } : Room).cells ({ frames := 2, cells := 2, slots := 5, locals := 40 } : Room).slots) (Q_rm_valueof Z c1 cs h0 n0) (s₁.setTop (entryFrame m #[(.int c1)] 1))
  rw [own_ef_rm_valueof m c1]
  show own_Go _ _ _ _ _ (State.setTop _ (mkF _ 0 #[.val (.int c1)] []))
  refine own_getS X0 hx hZ (host := "") hown (Or.inl (own_hw hw 14 rfl)) Via.refl e0 S1 3 rfl (hb hby own_d7_0) fun T604 X604 e604 => ?_
  refine own_ifNo X604 hx 6 rfl (hb hby own_d7_3) ((if0 _ _).trans (feq hcs).1) ?_
  refine own_iloadN X604 hx 7 rfl (hb hby own_d7_6) rfl ?_
  refine own_callS X604 hx hZ (y := (⟨"java/lang/StringLatin1", "canEncode", "(C)Z"⟩ : MethodName)) hown (own_hw hw 33 rfl) (own_hw hw 34 rfl) (by decide) (rm_canenc l Z a0 hw [] c1 h0 n0 Z0 hc) (own_hw hw 36 rfl) (own_hw hw 35 rfl) (by decide) e604 (by rw [hml]; rfl) [(.int c1)] 0 (by decide) (Nat.le_of_eq rfl) (by decide) (by decide) (lenOf own_pd13 rfl) rfl rfl 10 rfl (hb hby own_d7_7) fun v605 T605 Lc605 X605 hQ605 => ?_
  obtain ⟨rfl, Nq605, e605⟩ := hQ605
  have N606 := Fr.app N0 Nq605
  show own_Go _ _ _ _ _ (State.setTop _ (mkF _ 10 _ [(.int (1 : Int32))]))
  refine own_ifNo X605 hx 13 rfl (hb hby own_d7_10) (by decide) ?_
  refine own_new X605 hx hZ hown (own_hw hw 37 rfl) (own_hw hw 2 rfl) (own_hw hw 3 rfl) e605 16 rfl (hb hby own_d7_13) (by decide) (by decide) fun T607 h607 b607 g607 X607 e607 E607 A607 D607 => ?_
  have ge608 : n0 ≤ b607 := Nat.le_trans Z0 (Nat.le_of_eq g607.symm)
  have sz609 : h0.size ≤ b607 := Nat.le_trans K0.1 (Nat.le_of_eq g607.symm)
  have f610 := S1.ext E607
  have z611 := Nat.le_trans Z0 E607.1
  have K612 := K0.ext E607
  have f613 : Fld Z h607 b607 "java/lang/String" "coder" "B" (.int (0 : Int32)) := D607 (Or.inr (own_hw hw 27 rfl)) (ty := .byte) (by decide)
  have f614 : Fld Z h607 b607 "java/lang/String" "value" "[B" .null := D607 (Or.inr (own_hw hw 29 rfl)) (ty := (.array .byte)) (by decide)
  refine own_dup X607 hx 17 rfl (hb hby own_d7_16) rfl ?_
  refine own_iloadN X607 hx 18 rfl (hb hby own_d7_17) rfl ?_
  refine own_callS X607 hx hZ (y := (⟨"java/lang/StringLatin1", "toBytes", "(C)[B"⟩ : MethodName)) hown (own_hw hw 38 rfl) (own_hw hw 39 rfl) (by decide) (rm_tobytes l Z a0 hw [] c1 h607 n0 z611 ) (own_hw hw 40 rfl) (own_hw hw 35 rfl) (by decide) e607 (by rw [hml]; rfl) [(.int c1)] 2 (by decide) (Nat.le_of_eq rfl) (by decide) (by decide) (lenOf own_pd14 rfl) rfl rfl 21 rfl (hb hby own_d7_18) fun v615 T615 Lc615 X615 hQ615 => ?_
  obtain ⟨r_615, rfl, Nq615, Kq615, sd0_615⟩ := hQ615
  have N616 := Fr.app N606 Nq615
  have ne617 : b607 ≠ r_615 := Nat.ne_of_lt (Nat.lt_of_lt_of_le A607.lt sd0_615)
  have ge618 : n0 ≤ r_615 := Nat.le_trans z611 sd0_615
  have sz619 : h0.size ≤ r_615 := Nat.le_trans K612.1 sd0_615
  have f620 := own_staKeep f610 Kq615 ns0
  have f621 := A607.keep Kq615
  have f622 := f613.keep Kq615 nin0
  have f623 := f614.keep Kq615 nin0
  have z624 := Nat.le_trans z611 Kq615.1
  have K625 := K612.trans Kq615 all0
  show own_Go _ _ _ _ _ (State.setTop _ (mkF _ 21 _ [(.ref r_615), (.ref b607), (.ref b607)]))
  refine own_iconst X615 hx 22 rfl (hb hby own_d7_21) (0 : Int32) rfl ?_
  refine own_special X615 hx hZ (y := (⟨"java/lang/String", "<init>", "([BB)V"⟩ : MethodName)) hown rfl (own_hw hw 41 rfl) (own_hw hw 42 rfl) (a := b607) (by decide) rfl (rm_strinit l Z a0 hw [] b607 r_615 T615.heap n0 z624 f621 f623 f622 ge608) (own_hw hw 43 rfl) (own_hw hw 3 rfl) (by decide) rfl (by rw [hml]; rfl) [(.ref r_615), (.int (0 : Int32))] 1 (by decide) (Nat.le_of_eq rfl) (by decide) (by decide) (lenOf own_pd15 rfl) rfl rfl 25 rfl (hb hby own_d7_22) fun v626 T626 Lc626 X626 hQ626 => ?_
  obtain ⟨rfl, Nq626, Kq626, f627⟩ := hQ626
  have N628 := Fr.app N616 Nq626
  have f629 := own_staKeep f620 Kq626 (nsS f621.nostat ns0)
  have f630 := f621.keep Kq626
  have z633 := Nat.le_trans z624 Kq626.1
  have K634 := K625.trans Kq626 (allS (Or.inr sz609) all0)
  show own_Go _ _ _ _ _ (State.setTop _ (mkF _ 25 _ [(.ref b607)]))
  refine own_ret X626 (some (.ref b607)) (fun h => by rw [Bd.returns] at h; cases h) Bd.notSynchronized (by decide) (by decide) ?_ (fun fs hr => own_retR X626 hx Bd.returns rfl rfl (hb hby own_d7_25) hr)
  show Q_rm_valueof Z c1 cs h0 n0 _ T626.heap _
  exact ⟨b607, rfl, N628, K634, sz609, f627⟩
theorem own_pn17 : plainName "java/lang/StringUTF16" = true := by first | (simp [plainName, overriddenIn]; done) | decide +kernel
theorem own_ef_rm_cp5 (m : MethodId) (a : Addr) (b : Addr) : entryFrame m #[(.ref a), (.int (0 : Int32)), (.ref b), (.int (0 : Int32)), (.int (2 : Int32))] 7 = mkF m 0 #[.val (.ref a), .val (.int (0 : Int32)), .val (.ref b), .val (.int (0 : Int32)), .val (.int (2 : Int32)), .unset, .unset] [] := by first | (simp [entryFrame, mkF, argsToLocals, Value.category]; done) | rfl
def Q_rm_cp5 (Z : State) (a : Addr) (ka : ClassId) (c0 : Int32) (c1 : Int32) (b : Addr) (kb : ClassId) (h0 : Heap) (n0 : Nat) (v : Option Value) (h : Heap) (L : List Loc) : Prop := v = some (.int (2 : Int32)) ∧ Fr n0 L ∧ Keep h0 h [b] ∧ Arv Z h b kb .byte (2 : Int32) [(.int c0.toInt8.toInt32.toInt8.toInt32), (.int c1.toInt8.toInt32.toInt8.toInt32)] (.int (0 : Int32))
theorem own_d5_0 : decode jdk_52_method_21_code 0 = .ok (.iconst 0, 1) := by decide +kernel
theorem own_d5_1 : decode jdk_52_method_21_code 1 = .ok (.istore 5, 2) := by decide +kernel
theorem own_d5_3 : decode jdk_52_method_21_code 3 = .ok (.iload 5, 2) := by decide +kernel
theorem own_d5_5 : decode jdk_52_method_21_code 5 = .ok (.iload 4, 2) := by decide +kernel
theorem own_d5_7 : decode jdk_52_method_21_code 7 = .ok (.if_icmp .ge 37, 3) := by decide +kernel
theorem own_d5_10 : decode jdk_52_method_21_code 10 = .ok (.aload_n 0, 1) := by decide +kernel
theorem own_d5_11 : decode jdk_52_method_21_code 11 = .ok (.iload_n 1, 1) := by decide +kernel
theorem own_d5_12 : decode jdk_52_method_21_code 12 = .ok (.caload, 1) := by decide +kernel
theorem own_d5_13 : decode jdk_52_method_21_code 13 = .ok (.istore 6, 2) := by decide +kernel
theorem own_d5_15 : decode jdk_52_method_21_code 15 = .ok (.iload 6, 2) := by decide +kernel
theorem own_d5_17 : decode jdk_52_method_21_code 17 = .ok (.sipush 255, 3) := by decide +kernel
theorem own_d5_20 : decode jdk_52_method_21_code 20 = .ok (.if_icmp .le 6, 3) := by decide +kernel
theorem own_d5_26 : decode jdk_52_method_21_code 26 = .ok (.aload_n 2, 1) := by decide +kernel
theorem own_d5_27 : decode jdk_52_method_21_code 27 = .ok (.iload_n 3, 1) := by decide +kernel
theorem own_d5_28 : decode jdk_52_method_21_code 28 = .ok (.iload 6, 2) := by decide +kernel
theorem own_d5_30 : decode jdk_52_method_21_code 30 = .ok (.i2b, 1) := by decide +kernel
theorem own_d5_31 : decode jdk_52_method_21_code 31 = .ok (.bastore, 1) := by decide +kernel
theorem own_d5_32 : decode jdk_52_method_21_code 32 = .ok (.iinc 1 1, 3) := by decide +kernel
theorem own_d5_35 : decode jdk_52_method_21_code 35 = .ok (.iinc 3 1, 3) := by decide +kernel
theorem own_d5_38 : decode jdk_52_method_21_code 38 = .ok (.iinc 5 1, 3) := by decide +kernel
theorem own_d5_41 : decode jdk_52_method_21_code 41 = .ok (.goto (-38), 3) := by decide +kernel
theorem own_d5_44 : decode jdk_52_method_21_code 44 = .ok (.iload 4, 2) := by decide +kernel
theorem own_d5_46 : decode jdk_52_method_21_code 46 = .ok (.ireturn, 1) := by decide +kernel
set_option maxRecDepth 65536 in
set_option maxHeartbeats 40000000 in
theorem rm_cp5 (l : Launch) (Z : State) (a0 : Array Value) (hw : ∀ d ∈ tables_1, d.before a0 Z = true) (ws : List Jvm.Cond) (a : Addr) (ka : ClassId) (c0 : Int32) (c1 : Int32) (b : Addr) (kb : ClassId) (h0 : Heap) (n0 : Nat) (Z0 : n0 ≤ h0.size) (A1 : Arv Z h0 a ka .char (2 : Int32) [(.int c0), (.int c1)] (.int (0 : Int32))) (hc0 : ¬ (255 : Int32) < c0) (hc1 : ¬ (255 : Int32) < c1) (A2 : Arv Z h0 b kb .byte (2 : Int32) [(.int (0 : Int32)), (.int (0 : Int32))] (.int (0 : Int32))) (g_b : n0 ≤ b) (ne_ab : a ≠ b) :
    MetFree l (⟨"java/lang/StringUTF16", "compress", "([CI[BII)I"⟩ : MethodName) (head1 (Jvm.Cond.code (⟨"java/lang/StringUTF16", "compress", "([CI[BII)I"⟩ : MethodName) jdk_52_method_21_code 7 (some .int) :: ws) ({ frames := 0, cells := 0, slots := 0, locals := 0 } : Room)) (fun aa U => aa = #[(.ref a), (.int (0 : Int32)), (.ref b), (.int (0 : Int32)), (.int (2 : Int32))] ∧ Z.Warmed39 U.vm ∧ U.heap = h0) (fun _ _ _ _ _ => True) (fun _ U ou U' => ∃ v L, ou = .returned v ∧ Q_rm_cp5 Z a ka c0 c1 b kb h0 n0 v U'.heap L ∧ FrameEnd U ou U' L ({ frames := 0, cells := 0, slots := 0, locals := 0 } : Room).cells ({ frames := 0, cells := 0, slots := 0, locals := 0 } : Room).slots) := by
  refine MetFree.of_bodySF (plainFor_of_name own_pn17) hisR ?_
  intro p e s m args below meth c s₁ Bd hml0 hP hK
  obtain ⟨rfl, hZ, hh⟩ := hP
  have hx := Bd.exec
  have hby := Bd.bytes
  have hml : c.maxLocals = 7 := hml0
  have hown : s.vm.findClass "java/lang/StringUTF16" = some m.cls := findClass_of_methodNamed Bd.named
  have hnm := (name_of_methodNamed Bd.named Bd.method).1
  have X0 : Stand p l e ({ frames := 0, cells := 0, slots := 0, locals := 0 } : Room) s m #[(.ref a), (.int (0 : Int32)), (.ref b), (.int (0 : Int32)), (.int (2 : Int32))] below meth c s₁ [] 0 0 := Stand.of_body Bd
  have e0 : s₁.heap = h0 := by rw [← hh, Bd.state]; rfl
  have N0 := Fr.nil n0
  have K0 := Keep.refl h0 [b]
  show own_Go p e below (fun o u L => FrameEnd s o u L ({ frames := 0, cells := 0, slots := 0, locals := 0 } : Room).cells ({ frames := 0, cells := 0, slots := 0, locals := 0 } : Room).slots) (Q_rm_cp5 Z a ka c0 c1 b kb h0 n0) (s₁.setTop (entryFrame m #[(.ref a), (.int (0 : Int32)), (.ref b), (.int (0 : Int32)), (.int (2 : Int32))] 7))
  rw [own_ef_rm_cp5 m a b]
  show own_Go _ _ _ _ _ (State.setTop _ (mkF _ 0 #[.val (.ref a), .val (.int (0 : Int32)), .val (.ref b), .val (.int (0 : Int32)), .val (.int (2 : Int32)), .unset, .unset] []))
  refine own_iconst X0 hx 1 rfl (hb hby own_d5_0) (0 : Int32) rfl ?_
  refine own_istore X0 hx 3 rfl (hb hby own_d5_1) #[.val (.ref a), .val (.int (0 : Int32)), .val (.ref b), .val (.int (0 : Int32)), .val (.int (2 : Int32)), .val (.int (0 : Int32)), .unset] rfl ?_
  refine own_iload X0 hx 5 rfl (hb hby own_d5_3) rfl ?_
  refine own_iload X0 hx 7 rfl (hb hby own_d5_5) rfl ?_
  refine own_icmpNo X0 hx 10 rfl (hb hby own_d5_7) (by decide) ?_
  refine own_aloadN X0 hx 11 rfl (hb hby own_d5_10) rfl rfl ?_
  refine own_iloadN X0 hx 12 rfl (hb hby own_d5_11) rfl ?_
  refine own_ldC X0 hx hZ e0 A1 ⟨by decide, by decide⟩ c0 rfl 13 rfl (hb hby own_d5_12) ?_
  refine own_istore X0 hx 15 rfl (hb hby own_d5_13) #[.val (.ref a), .val (.int (0 : Int32)), .val (.ref b), .val (.int (0 : Int32)), .val (.int (2 : Int32)), .val (.int (0 : Int32)), .val (.int c0)] rfl ?_
  refine own_iload X0 hx 17 rfl (hb hby own_d5_15) rfl ?_
  refine own_sipush X0 hx 20 rfl (hb hby own_d5_17) (255 : Int32) rfl ?_
  refine own_icmpYes X0 hx 26 (hb hby own_d5_20) (flt hc0).2.2.2 (by decide) rfl ?_
  refine own_aloadN X0 hx 27 rfl (hb hby own_d5_26) rfl rfl ?_
  refine own_iloadN X0 hx 28 rfl (hb hby own_d5_27) rfl ?_
  refine own_iload X0 hx 30 rfl (hb hby own_d5_28) rfl ?_
  refine own_i2b X0 hx 31 rfl (hb hby own_d5_30) _ rfl ?_
  refine own_stB X0 hx hZ e0 A2 ⟨by decide, by decide⟩ 0 rfl (Nat.le_of_ble_eq_true rfl) [(.int c0.toInt8.toInt32.toInt8.toInt32), (.int (0 : Int32))] rfl 32 rfl (hb hby own_d5_31) fun T635 h635 X635 e635 W635 f636 => ?_
  have f637 := A1.other W635 ne_ab
  have z638 := Nat.le_trans Z0 (Keep.of_wr W635).1
  have K639 := K0.wr W635 (Or.inl (List.mem_of_getElem? (i := 0) rfl))
  have N640 := Fr.snoc X635 N0 g_b
  refine own_iinc X635 hx 35 rfl (hb hby own_d5_32) rfl #[.val (.ref a), .val (.int (1 : Int32)), .val (.ref b), .val (.int (0 : Int32)), .val (.int (2 : Int32)), .val (.int (0 : Int32)), .val (.int c0)] rfl ?_
  refine own_iinc X635 hx 38 rfl (hb hby own_d5_35) rfl #[.val (.ref a), .val (.int (1 : Int32)), .val (.ref b), .val (.int (1 : Int32)), .val (.int (2 : Int32)), .val (.int (0 : Int32)), .val (.int c0)] rfl ?_
  refine own_iinc X635 hx 41 rfl (hb hby own_d5_38) rfl #[.val (.ref a), .val (.int (1 : Int32)), .val (.ref b), .val (.int (1 : Int32)), .val (.int (2 : Int32)), .val (.int (1 : Int32)), .val (.int c0)] rfl ?_
  refine own_goto X635 hx 3 (hb hby own_d5_41) (by decide) rfl ?_
  refine own_iload X635 hx 5 rfl (hb hby own_d5_3) rfl ?_
  refine own_iload X635 hx 7 rfl (hb hby own_d5_5) rfl ?_
  refine own_icmpNo X635 hx 10 rfl (hb hby own_d5_7) (by decide) ?_
  refine own_aloadN X635 hx 11 rfl (hb hby own_d5_10) rfl rfl ?_
  refine own_iloadN X635 hx 12 rfl (hb hby own_d5_11) rfl ?_
  refine own_ldC X635 hx hZ e635 f637 ⟨by decide, by decide⟩ c1 rfl 13 rfl (hb hby own_d5_12) ?_
  refine own_istore X635 hx 15 rfl (hb hby own_d5_13) #[.val (.ref a), .val (.int (1 : Int32)), .val (.ref b), .val (.int (1 : Int32)), .val (.int (2 : Int32)), .val (.int (1 : Int32)), .val (.int c1)] rfl ?_
  refine own_iload X635 hx 17 rfl (hb hby own_d5_15) rfl ?_
  refine own_sipush X635 hx 20 rfl (hb hby own_d5_17) (255 : Int32) rfl ?_
  refine own_icmpYes X635 hx 26 (hb hby own_d5_20) (flt hc1).2.2.2 (by decide) rfl ?_
  refine own_aloadN X635 hx 27 rfl (hb hby own_d5_26) rfl rfl ?_
  refine own_iloadN X635 hx 28 rfl (hb hby own_d5_27) rfl ?_
  refine own_iload X635 hx 30 rfl (hb hby own_d5_28) rfl ?_
  refine own_i2b X635 hx 31 rfl (hb hby own_d5_30) _ rfl ?_
  refine own_stB X635 hx hZ e635 f636 ⟨by decide, by decide⟩ 1 rfl (Nat.le_of_ble_eq_true rfl) [(.int c0.toInt8.toInt32.toInt8.toInt32), (.int c1.toInt8.toInt32.toInt8.toInt32)] rfl 32 rfl (hb hby own_d5_31) fun T641 h641 X641 e641 W641 f642 => ?_
  have f643 := f637.other W641 ne_ab
  have z644 := Nat.le_trans z638 (Keep.of_wr W641).1
  have K645 := K639.wr W641 (Or.inl (List.mem_of_getElem? (i := 0) rfl))
  have N646 := Fr.snoc X641 N640 g_b
  refine own_iinc X641 hx 35 rfl (hb hby own_d5_32) rfl #[.val (.ref a), .val (.int (2 : Int32)), .val (.ref b), .val (.int (1 : Int32)), .val (.int (2 : Int32)), .val (.int (1 : Int32)), .val (.int c1)] rfl ?_
  refine own_iinc X641 hx 38 rfl (hb hby own_d5_35) rfl #[.val (.ref a), .val (.int (2 : Int32)), .val (.ref b), .val (.int (2 : Int32)), .val (.int (2 : Int32)), .val (.int (1 : Int32)), .val (.int c1)] rfl ?_
  refine own_iinc X641 hx 41 rfl (hb hby own_d5_38) rfl #[.val (.ref a), .val (.int (2 : Int32)), .val (.ref b), .val (.int (2 : Int32)), .val (.int (2 : Int32)), .val (.int (2 : Int32)), .val (.int c1)] rfl ?_
  refine own_goto X641 hx 3 (hb hby own_d5_41) (by decide) rfl ?_
  refine own_iload X641 hx 5 rfl (hb hby own_d5_3) rfl ?_
  refine own_iload X641 hx 7 rfl (hb hby own_d5_5) rfl ?_
  refine own_icmpYes X641 hx 44 (hb hby own_d5_7) (by decide) (by decide) rfl ?_
  refine own_iload X641 hx 46 rfl (hb hby own_d5_44) rfl ?_
  refine own_ret X641 (some (.int (2 : Int32))) (fun h => by rw [Bd.returns] at h; cases h) Bd.notSynchronized (by decide) (by decide) ?_ (fun fs hr => own_retI X641 hx Bd.returns (hb hby own_d5_46) hr)
  show Q_rm_cp5 Z a ka c0 c1 b kb h0 n0 _ T641.heap _
  rw [e641]
  exact ⟨rfl, N646, K645, f642⟩
theorem own_ef_rm_cp3 (m : MethodId) (a : Addr) : entryFrame m #[(.ref a), (.int (0 : Int32)), (.int (2 : Int32))] 6 = mkF m 0 #[.val (.ref a), .val (.int (0 : Int32)), .val (.int (2 : Int32)), .unset, .unset, .unset] [] := by first | (simp [entryFrame, mkF, argsToLocals, Value.category]; done) | rfl
def Q_rm_cp3 (Z : State) (a : Addr) (ka : ClassId) (c0 : Int32) (c1 : Int32) (h0 : Heap) (n0 : Nat) (v : Option Value) (h : Heap) (L : List Loc) : Prop := ∃ (b : Addr) (kb : ClassId), v = some (.ref b) ∧ Fr n0 L ∧ Keep h0 h [] ∧ h0.size ≤ b ∧ Arv Z h b kb .byte (2 : Int32) [(.int c0.toInt8.toInt32.toInt8.toInt32), (.int c1.toInt8.toInt32.toInt8.toInt32)] (.int (0 : Int32))
theorem own_d4_0 : decode jdk_52_method_16_code 0 = .ok (.iload_n 2, 1) := by decide +kernel
theorem own_d4_1 : decode jdk_52_method_16_code 1 = .ok (.newarray .byte, 2) := by decide +kernel
theorem own_d4_3 : decode jdk_52_method_16_code 3 = .ok (.astore_n 3, 1) := by decide +kernel
theorem own_d4_4 : decode jdk_52_method_16_code 4 = .ok (.aload_n 0, 1) := by decide +kernel
theorem own_d4_5 : decode jdk_52_method_16_code 5 = .ok (.iload_n 1, 1) := by decide +kernel
theorem own_d4_6 : decode jdk_52_method_16_code 6 = .ok (.aload_n 3, 1) := by decide +kernel
theorem own_d4_7 : decode jdk_52_method_16_code 7 = .ok (.iconst 0, 1) := by decide +kernel
theorem own_d4_8 : decode jdk_52_method_16_code 8 = .ok (.iload_n 2, 1) := by decide +kernel
theorem own_d4_9 : decode jdk_52_method_16_code 9 = .ok (.invokestatic 115, 3) := by decide +kernel
theorem own_pd16 : parseMethodDescriptor "([CI[BII)I" = some ⟨[(.array .char), .int, (.array .byte), .int, .int], some .int⟩ := by decide +kernel
theorem own_d4_12 : decode jdk_52_method_16_code 12 = .ok (.istore 4, 2) := by decide +kernel
theorem own_d4_14 : decode jdk_52_method_16_code 14 = .ok (.iload 4, 2) := by decide +kernel
theorem own_d4_16 : decode jdk_52_method_16_code 16 = .ok (.iload_n 2, 1) := by decide +kernel
theorem own_d4_17 : decode jdk_52_method_16_code 17 = .ok (.if_icmp .eq 40, 3) := by decide +kernel
theorem own_d4_57 : decode jdk_52_method_16_code 57 = .ok (.aload_n 3, 1) := by decide +kernel
theorem own_d4_58 : decode jdk_52_method_16_code 58 = .ok (.areturn, 1) := by decide +kernel
set_option maxRecDepth 65536 in
set_option maxHeartbeats 40000000 in
theorem rm_cp3 (l : Launch) (Z : State) (a0 : Array Value) (hw : ∀ d ∈ tables_1, d.before a0 Z = true) (ws : List Jvm.Cond) (a : Addr) (ka : ClassId) (c0 : Int32) (c1 : Int32) (h0 : Heap) (n0 : Nat) (Z0 : n0 ≤ h0.size) (A1 : Arv Z h0 a ka .char (2 : Int32) [(.int c0), (.int c1)] (.int (0 : Int32))) (hc0 : ¬ (255 : Int32) < c0) (hc1 : ¬ (255 : Int32) < c1) :
    MetFree l (⟨"java/lang/StringUTF16", "compress", "([CII)[B"⟩ : MethodName) (head1 (Jvm.Cond.code (⟨"java/lang/StringUTF16", "compress", "([CII)[B"⟩ : MethodName) jdk_52_method_16_code 6 (some (.array .byte)) :: ws) ({ frames := 1, cells := 1, slots := 2, locals := 20 } : Room)) (fun aa U => aa = #[(.ref a), (.int (0 : Int32)), (.int (2 : Int32))] ∧ Z.Warmed39 U.vm ∧ U.heap = h0) (fun _ _ _ _ _ => True) (fun _ U ou U' => ∃ v L, ou = .returned v ∧ Q_rm_cp3 Z a ka c0 c1 h0 n0 v U'.heap L ∧ FrameEnd U ou U' L ({ frames := 1, cells := 1, slots := 2, locals := 20 } : Room).cells ({ frames := 1, cells := 1, slots := 2, locals := 20 } : Room).slots) := by
  refine MetFree.of_bodySF (plainFor_of_name own_pn17) hisR ?_
  intro p e s m args below meth c s₁ Bd hml0 hP hK
  obtain ⟨rfl, hZ, hh⟩ := hP
  have hx := Bd.exec
  have hby := Bd.bytes
  have hml : c.maxLocals = 6 := hml0
  have hown : s.vm.findClass "java/lang/StringUTF16" = some m.cls := findClass_of_methodNamed Bd.named
  have hnm := (name_of_methodNamed Bd.named Bd.method).1
  have X0 : Stand p l e ({ frames := 1, cells := 1, slots := 2, locals := 20 } : Room) s m #[(.ref a), (.int (0 : Int32)), (.int (2 : Int32))] below meth c s₁ [] 0 0 := Stand.of_body Bd
  have e0 : s₁.heap = h0 := by rw [← hh, Bd.state]; rfl
  have N0 := Fr.nil n0
  have K0 := Keep.refl h0 []
  show own_Go p e below (fun o u L => FrameEnd s o u L ({ frames := 1, cells := 1, slots := 2, locals := 20 } : Room).cells ({ frames := 1, cells := 1, slots := 2, locals := 20 } : Room).slots) (Q_rm_cp3 Z a ka c0 c1 h0 n0) (s₁.setTop (entryFrame m #[(.ref a), (.int (0 : Int32)), (.int (2 : Int32))] 6))
  rw [own_ef_rm_cp3 m a]
  show own_Go _ _ _ _ _ (State.setTop _ (mkF _ 0 #[.val (.ref a), .val (.int (0 : Int32)), .val (.int (2 : Int32)), .unset, .unset, .unset] []))
  refine own_iloadN X0 hx 1 rfl (hb hby own_d4_0) rfl ?_
  refine own_newA X0 hx hZ (own_hw hw 19 rfl) e0 3 rfl (hb hby own_d4_1) (by decide) 2 (by decide) (by decide) (by decide) (by decide) "[B" (by decide) fun T647 h647 k647 b647 g647 X647 e647 E647 A647 C647 => ?_
  have ne648 : a ≠ b647 := Nat.ne_of_lt (Nat.lt_of_lt_of_le A1.lt (Nat.le_of_eq g647.symm))
  have ge649 : n0 ≤ b647 := Nat.le_trans Z0 (Nat.le_of_eq g647.symm)
  have sz650 : h0.size ≤ b647 := Nat.le_trans K0.1 (Nat.le_of_eq g647.symm)
  have f651 := A1.ext E647
  have z652 := Nat.le_trans Z0 E647.1
  have K653 := K0.ext E647
  have f654 : Arv Z h647 b647 k647 .byte (2 : Int32) [(.int (0 : Int32)), (.int (0 : Int32))] (.int (0 : Int32)) := (Arv.new A647 (by decide)).pad (pad_rep [] (.int (0 : Int32)) 2)
  refine own_astoreN X647 hx 4 rfl (hb hby own_d4_3) rfl #[.val (.ref a), .val (.int (0 : Int32)), .val (.int (2 : Int32)), .val (.ref b647), .unset, .unset] rfl ?_
  refine own_aloadN X647 hx 5 rfl (hb hby own_d4_4) rfl rfl ?_
  refine own_iloadN X647 hx 6 rfl (hb hby own_d4_5) rfl ?_
  refine own_aloadN X647 hx 7 rfl (hb hby own_d4_6) rfl rfl ?_
  refine own_iconst X647 hx 8 rfl (hb hby own_d4_7) (0 : Int32) rfl ?_
  refine own_iloadN X647 hx 9 rfl (hb hby own_d4_8) rfl ?_
  refine own_callS X647 hx hZ (y := (⟨"java/lang/StringUTF16", "compress", "([CI[BII)I"⟩ : MethodName)) hown (own_hw hw 20 rfl) (own_hw hw 21 rfl) (by decide) (rm_cp5 l Z a0 hw [] a ka c0 c1 b647 k647 h647 n0 z652 f651 hc0 hc1 f654 ge649 ne648) (own_hw hw 22 rfl) (own_hw hw 17 rfl) (by decide) e647 (by rw [hml]; rfl) [(.ref a), (.int (0 : Int32)), (.ref b647), (.int (0 : Int32)), (.int (2 : Int32))] 0 (by decide) (Nat.le_of_eq rfl) (by decide) (by decide) (lenOf own_pd16 rfl) rfl rfl 12 rfl (hb hby own_d4_9) fun v655 T655 Lc655 X655 hQ655 => ?_
  obtain ⟨rfl, Nq655, Kq655, f656⟩ := hQ655
  have N657 := Fr.app N0 Nq655
  have f658 := f651.keep Kq655 (ninS ne648 nin0)
  have f659 := C647.keep Kq655
  have z661 := Nat.le_trans z652 Kq655.1
  have K662 := K653.trans Kq655 (allS (Or.inr sz650) all0)
  show own_Go _ _ _ _ _ (State.setTop _ (mkF _ 12 _ [(.int (2 : Int32))]))
  refine own_istore X655 hx 14 rfl (hb hby own_d4_12) #[.val (.ref a), .val (.int (0 : Int32)), .val (.int (2 : Int32)), .val (.ref b647), .val (.int (2 : Int32)), .unset] rfl ?_
  refine own_iload X655 hx 16 rfl (hb hby own_d4_14) rfl ?_
  refine own_iloadN X655 hx 17 rfl (hb hby own_d4_16) rfl ?_
  refine own_icmpYes X655 hx 57 (hb hby own_d4_17) (by decide) (by decide) rfl ?_
  refine own_aloadN X655 hx 58 rfl (hb hby own_d4_57) rfl rfl ?_
  refine own_ret X655 (some (.ref b647)) (fun h => by rw [Bd.returns] at h; cases h) Bd.notSynchronized (by decide) (by decide) ?_ (fun fs hr => own_retR X655 hx Bd.returns rfl rfl (hb hby own_d4_58) hr)
  show Q_rm_cp3 Z a ka c0 c1 h0 n0 _ T655.heap _
  exact ⟨b647, k647, rfl, N657, K662, sz650, f656⟩
theorem own_ef_rm_cfl (m : MethodId) (b : Addr) : entryFrame m #[(.ref b), (.int (2 : Int32))] 2 = mkF m 0 #[.val (.ref b), .val (.int (2 : Int32))] [] := by first | (simp [entryFrame, mkF, argsToLocals, Value.category]; done) | rfl
def Q_rm_cfl (Z : State) (b : Addr) (kb : ClassId) (x0 : Value) (x1 : Value) (h0 : Heap) (n0 : Nat) (v : Option Value) (h : Heap) (L : List Loc) : Prop := v = some (.int (0 : Int32)) ∧ Fr n0 L ∧ h = h0
theorem own_d6_0 : decode jdk_52_method_15_code 0 = .ok (.iload_n 1, 1) := by decide +kernel
theorem own_d6_1 : decode jdk_52_method_15_code 1 = .ok (.aload_n 0, 1) := by decide +kernel
theorem own_d6_2 : decode jdk_52_method_15_code 2 = .ok (.arraylength, 1) := by decide +kernel
theorem own_d6_3 : decode jdk_52_method_15_code 3 = .ok (.isub, 1) := by decide +kernel
theorem own_d6_4 : decode jdk_52_method_15_code 4 = .ok (.bipush 31, 2) := by decide +kernel
theorem own_d6_6 : decode jdk_52_method_15_code 6 = .ok (.iushr, 1) := by decide +kernel
theorem own_d6_7 : decode jdk_52_method_15_code 7 = .ok (.i2b, 1) := by decide +kernel
theorem own_d6_8 : decode jdk_52_method_15_code 8 = .ok (.ireturn, 1) := by decide +kernel
set_option maxRecDepth 65536 in
set_option maxHeartbeats 40000000 in
theorem rm_cfl (l : Launch) (Z : State) (a0 : Array Value) (hw : ∀ d ∈ tables_1, d.before a0 Z = true) (ws : List Jvm.Cond) (b : Addr) (kb : ClassId) (x0 : Value) (x1 : Value) (h0 : Heap) (n0 : Nat) (Z0 : n0 ≤ h0.size) (A2 : Arv Z h0 b kb .byte (2 : Int32) [x0, x1] (.int (0 : Int32))) :
    MetFree l (⟨"java/lang/StringUTF16", "coderFromArrayLen", "([BI)B"⟩ : MethodName) (head1 (Jvm.Cond.code (⟨"java/lang/StringUTF16", "coderFromArrayLen", "([BI)B"⟩ : MethodName) jdk_52_method_15_code 2 (some .byte) :: ws) ({ frames := 0, cells := 0, slots := 0, locals := 0 } : Room)) (fun aa U => aa = #[(.ref b), (.int (2 : Int32))] ∧ Z.Warmed39 U.vm ∧ U.heap = h0) (fun _ _ _ _ _ => True) (fun _ U ou U' => ∃ v L, ou = .returned v ∧ Q_rm_cfl Z b kb x0 x1 h0 n0 v U'.heap L ∧ FrameEnd U ou U' L ({ frames := 0, cells := 0, slots := 0, locals := 0 } : Room).cells ({ frames := 0, cells := 0, slots := 0, locals := 0 } : Room).slots) := by
  refine MetFree.of_bodySF (plainFor_of_name own_pn17) hisR ?_
  intro p e s m args below meth c s₁ Bd hml0 hP hK
  obtain ⟨rfl, hZ, hh⟩ := hP
  have hx := Bd.exec
  have hby := Bd.bytes
  have hml : c.maxLocals = 2 := hml0
  have hown : s.vm.findClass "java/lang/StringUTF16" = some m.cls := findClass_of_methodNamed Bd.named
  have hnm := (name_of_methodNamed Bd.named Bd.method).1
  have X0 : Stand p l e ({ frames := 0, cells := 0, slots := 0, locals := 0 } : Room) s m #[(.ref b), (.int (2 : Int32))] below meth c s₁ [] 0 0 := Stand.of_body Bd
  have e0 : s₁.heap = h0 := by rw [← hh, Bd.state]; rfl
  have N0 := Fr.nil n0
  show own_Go p e below (fun o u L => FrameEnd s o u L ({ frames := 0, cells := 0, slots := 0, locals := 0 } : Room).cells ({ frames := 0, cells := 0, slots := 0, locals := 0 } : Room).slots) (Q_rm_cfl Z b kb x0 x1 h0 n0) (s₁.setTop (entryFrame m #[(.ref b), (.int (2 : Int32))] 2))
  rw [own_ef_rm_cfl m b]
  show own_Go _ _ _ _ _ (State.setTop _ (mkF _ 0 #[.val (.ref b), .val (.int (2 : Int32))] []))
  refine own_iloadN X0 hx 1 rfl (hb hby own_d6_0) rfl ?_
  refine own_aloadN X0 hx 2 rfl (hb hby own_d6_1) rfl rfl ?_
  refine own_len X0 hx hZ e0 A2 3 rfl (hb hby own_d6_2) ?_
  refine own_isub X0 hx 4 rfl (hb hby own_d6_3) (0 : Int32) rfl ?_
  refine own_bipush X0 hx 6 rfl (hb hby own_d6_4) (31 : Int32) rfl ?_
  refine own_iushr X0 hx 7 rfl (hb hby own_d6_6) (0 : Int32) (by decide) ?_
  refine own_i2b X0 hx 8 rfl (hb hby own_d6_7) (0 : Int32) (by decide) ?_
  refine own_ret X0 (some (.int (0 : Int32))) (fun h => by rw [Bd.returns] at h; cases h) Bd.notSynchronized (by decide) (by decide) ?_ (fun fs hr => retN X0 hx (t := .byte) Bd.returns (by simp) (hb hby own_d6_8) hr)
  show Q_rm_cfl Z b kb x0 x1 h0 n0 _ s₁.heap _
  rw [e0]
  exact ⟨rfl, N0, rfl⟩
theorem own_ef_rm_str4 (m : MethodId) (o : Addr) (a : Addr) : entryFrame m #[(.ref o), (.ref a), (.int (0 : Int32)), (.int (2 : Int32)), .null] 6 = mkF m 0 #[.val (.ref o), .val (.ref a), .val (.int (0 : Int32)), .val (.int (2 : Int32)), .val .null, .unset] [] := by first | (simp [entryFrame, mkF, argsToLocals, Value.category]; done) | rfl
def Q_rm_str4 (Z : State) (o : Addr) (a : Addr) (ka : ClassId) (c0 : Int32) (c1 : Int32) (cs : Int32) (h0 : Heap) (n0 : Nat) (v : Option Value) (h : Heap) (L : List Loc) : Prop := v = none ∧ Fr n0 L ∧ Keep h0 h [o] ∧ Exa Z h o "java/lang/String"
theorem own_d2_0 : decode jdk_42_method_149_code 0 = .ok (.aload_n 0, 1) := by decide +kernel
theorem own_d2_1 : decode jdk_42_method_149_code 1 = .ok (.invokespecial 1, 3) := by decide +kernel
theorem own_d2_4 : decode jdk_42_method_149_code 4 = .ok (.iload_n 3, 1) := by decide +kernel
theorem own_d2_5 : decode jdk_42_method_149_code 5 = .ok (.ifCond .ne 22, 3) := by decide +kernel
theorem own_d2_27 : decode jdk_42_method_149_code 27 = .ok (.getstatic 38, 3) := by decide +kernel
theorem own_d2_30 : decode jdk_42_method_149_code 30 = .ok (.ifCond .eq 28, 3) := by decide +kernel
theorem own_d2_33 : decode jdk_42_method_149_code 33 = .ok (.aload_n 1, 1) := by decide +kernel
theorem own_d2_34 : decode jdk_42_method_149_code 34 = .ok (.iload_n 2, 1) := by decide +kernel
theorem own_d2_35 : decode jdk_42_method_149_code 35 = .ok (.iload_n 3, 1) := by decide +kernel
theorem own_d2_36 : decode jdk_42_method_149_code 36 = .ok (.invokestatic 177, 3) := by decide +kernel
theorem own_pd17 : parseMethodDescriptor "([CII)[B" = some ⟨[(.array .char), .int, .int], some (.array .byte)⟩ := by decide +kernel
theorem own_d2_39 : decode jdk_42_method_149_code 39 = .ok (.astore 5, 2) := by decide +kernel
theorem own_d2_41 : decode jdk_42_method_149_code 41 = .ok (.aload_n 0, 1) := by decide +kernel
theorem own_d2_42 : decode jdk_42_method_149_code 42 = .ok (.aload 5, 2) := by decide +kernel
theorem own_d2_44 : decode jdk_42_method_149_code 44 = .ok (.iload_n 3, 1) := by decide +kernel
theorem own_d2_45 : decode jdk_42_method_149_code 45 = .ok (.invokestatic 47, 3) := by decide +kernel
theorem own_pd18 : parseMethodDescriptor "([BI)B" = some ⟨[(.array .byte), .int], some .byte⟩ := by decide +kernel
theorem own_d2_48 : decode jdk_42_method_149_code 48 = .ok (.putfield 15, 3) := by decide +kernel
theorem own_d2_51 : decode jdk_42_method_149_code 51 = .ok (.aload_n 0, 1) := by decide +kernel
theorem own_d2_52 : decode jdk_42_method_149_code 52 = .ok (.aload 5, 2) := by decide +kernel
theorem own_d2_54 : decode jdk_42_method_149_code 54 = .ok (.putfield 9, 3) := by decide +kernel
theorem own_d2_57 : decode jdk_42_method_149_code 57 = .ok (.return_, 1) := by decide +kernel
set_option maxRecDepth 65536 in
set_option maxHeartbeats 40000000 in
theorem rm_str4 (l : Launch) (Z : State) (a0 : Array Value) (hw : ∀ d ∈ tables_1, d.before a0 Z = true) (ws : List Jvm.Cond) (o : Addr) (a : Addr) (ka : ClassId) (c0 : Int32) (c1 : Int32) (cs : Int32) (h0 : Heap) (n0 : Nat) (Z0 : n0 ≤ h0.size) (E1 : Exa Z h0 o "java/lang/String") (F1 : Fld Z h0 o "java/lang/String" "value" "[B" .null) (F2 : Fld Z h0 o "java/lang/String" "coder" "B" (.int (0 : Int32))) (g_o : n0 ≤ o) (A1 : Arv Z h0 a ka .char (2 : Int32) [(.int c0), (.int c1)] (.int (0 : Int32))) (hc0 : ¬ (255 : Int32) < c0) (hc1 : ¬ (255 : Int32) < c1) (ne_oa : o ≠ a) (S1 : Sta Z h0 "java/lang/String" "COMPACT_STRINGS" "Z" (.int cs)) (hcs : ¬ cs = 0) :
    MetFree l (⟨"java/lang/String", "<init>", "([CIILjava/lang/Void;)V"⟩ : MethodName) (head1 (Jvm.Cond.code (⟨"java/lang/String", "<init>", "([CIILjava/lang/Void;)V"⟩ : MethodName) jdk_42_method_149_code 6 none :: ws) ({ frames := 2, cells := 1, slots := 2, locals := 45 } : Room)) (fun aa U => aa = #[(.ref o), (.ref a), (.int (0 : Int32)), (.int (2 : Int32)), .null] ∧ Z.Warmed39 U.vm ∧ U.heap = h0) (fun _ _ _ _ _ => True) (fun _ U ou U' => ∃ v L, ou = .returned v ∧ Q_rm_str4 Z o a ka c0 c1 cs h0 n0 v U'.heap L ∧ FrameEnd U ou U' L ({ frames := 2, cells := 1, slots := 2, locals := 45 } : Room).cells ({ frames := 2, cells := 1, slots := 2, locals := 45 } : Room).slots) := by
  refine MetFree.of_bodySF (plainFor_of_name own_pn16) hisR ?_
  intro p e s m args below meth c s₁ Bd hml0 hP hK
  obtain ⟨rfl, hZ, hh⟩ := hP
  have hx := Bd.exec
  have hby := Bd.bytes
  have hml : c.maxLocals = 6 := hml0
  have hown : s.vm.findClass "java/lang/String" = some m.cls := findClass_of_methodNamed Bd.named
  have hnm := (name_of_methodNamed Bd.named Bd.method).1
  have X0 : Stand p l e ({ frames := 2, cells := 1, slots := 2, locals := 45 } : Room) s m #[(.ref o), (.ref a), (.int (0 : Int32)), (.int (2 : Int32)), .null] below meth c s₁ [] 0 0 := Stand.of_body Bd
  have e0 : s₁.heap = h0 := by rw [← hh, Bd.state]; rfl
  have N0 := Fr.nil n0
  have K0 := Keep.refl h0 [o]
  show own_Go p e below (fun o u L => FrameEnd s o u L ({ frames := 2, cells := 1, slots := 2, locals := 45 } : Room).cells ({ frames := 2, cells := 1, slots := 2, locals := 45 } : Room).slots) (Q_rm_str4 Z o a ka c0 c1 cs h0 n0) (s₁.setTop (entryFrame m #[(.ref o), (.ref a), (.int (0 : Int32)), (.int (2 : Int32)), .null] 6))
  rw [own_ef_rm_str4 m o a]
  show own_Go _ _ _ _ _ (State.setTop _ (mkF _ 0 #[.val (.ref o), .val (.ref a), .val (.int (0 : Int32)), .val (.int (2 : Int32)), .val .null, .unset] []))
  refine own_aloadN X0 hx 1 rfl (hb hby own_d2_0) rfl rfl ?_
  refine own_initO X0 hx hZ hown (own_hw hw 11 rfl) (own_hw hw 12 rfl) (own_hw hw 13 rfl) e0 (by rw [hml]; rfl) 4 rfl (hb hby own_d2_1) (by decide) 0 (Nat.le_of_eq rfl) (by decide) fun T663 X663 e663 => ?_
  refine own_iloadN X663 hx 5 rfl (hb hby own_d2_4) rfl ?_
  refine own_ifYes X663 hx 27 (hb hby own_d2_5) (by decide) (by decide) rfl ?_
  refine own_getS X663 hx hZ (host := "") hown (Or.inl (own_hw hw 14 rfl)) Via.refl e663 S1 30 rfl (hb hby own_d2_27) fun T664 X664 e664 => ?_
  refine own_ifNo X664 hx 33 rfl (hb hby own_d2_30) ((if0 _ _).trans (feq hcs).1) ?_
  refine own_aloadN X664 hx 34 rfl (hb hby own_d2_33) rfl rfl ?_
  refine own_iloadN X664 hx 35 rfl (hb hby own_d2_34) rfl ?_
  refine own_iloadN X664 hx 36 rfl (hb hby own_d2_35) rfl ?_
  refine own_callS X664 hx hZ (y := (⟨"java/lang/StringUTF16", "compress", "([CII)[B"⟩ : MethodName)) hown (own_hw hw 15 rfl) (own_hw hw 16 rfl) (by decide) (rm_cp3 l Z a0 hw [] a ka c0 c1 h0 n0 Z0 A1 hc0 hc1) (own_hw hw 18 rfl) (own_hw hw 17 rfl) (by decide) e664 (by rw [hml]; rfl) [(.ref a), (.int (0 : Int32)), (.int (2 : Int32))] 0 (by decide) (Nat.le_of_eq rfl) (by decide) (by decide) (lenOf own_pd17 rfl) rfl rfl 39 rfl (hb hby own_d2_36) fun v665 T665 Lc665 X665 hQ665 => ?_
  obtain ⟨b_665, kb_665, rfl, Nq665, Kq665, sd0_665, f666⟩ := hQ665
  have N667 := Fr.app N0 Nq665
  have ne668 : o ≠ b_665 := Nat.ne_of_lt (Nat.lt_of_lt_of_le E1.lt sd0_665)
  have ne669 : a ≠ b_665 := Nat.ne_of_lt (Nat.lt_of_lt_of_le A1.lt sd0_665)
  have ge670 : n0 ≤ b_665 := Nat.le_trans Z0 sd0_665
  have sz671 : h0.size ≤ b_665 := Nat.le_trans K0.1 sd0_665
  have f672 := E1.keep Kq665
  have f673 := F1.keep Kq665 nin0
  have f674 := F2.keep Kq665 nin0
  have f675 := A1.keep Kq665 nin0
  have f676 := own_staKeep S1 Kq665 ns0
  have z677 := Nat.le_trans Z0 Kq665.1
  have K678 := K0.trans Kq665 all0
  show own_Go _ _ _ _ _ (State.setTop _ (mkF _ 39 _ [(.ref b_665)]))
  refine own_astore X665 hx 41 rfl (hb hby own_d2_39) rfl #[.val (.ref o), .val (.ref a), .val (.int (0 : Int32)), .val (.int (2 : Int32)), .val .null, .val (.ref b_665)] rfl ?_
  refine own_aloadN X665 hx 42 rfl (hb hby own_d2_41) rfl rfl ?_
  refine own_aload X665 hx 44 rfl (hb hby own_d2_42) rfl rfl ?_
  refine own_iloadN X665 hx 45 rfl (hb hby own_d2_44) rfl ?_
  refine own_callS X665 hx hZ (y := (⟨"java/lang/StringUTF16", "coderFromArrayLen", "([BI)B"⟩ : MethodName)) hown (own_hw hw 23 rfl) (own_hw hw 24 rfl) (by decide) (rm_cfl l Z a0 hw [] b_665 kb_665 (.int c0.toInt8.toInt32.toInt8.toInt32) (.int c1.toInt8.toInt32.toInt8.toInt32) T665.heap n0 z677 f666) (own_hw hw 25 rfl) (own_hw hw 17 rfl) (by decide) rfl (by rw [hml]; rfl) [(.ref b_665), (.int (2 : Int32))] 1 (by decide) (Nat.le_of_eq rfl) (by decide) (by decide) (lenOf own_pd18 rfl) rfl rfl 48 rfl (hb hby own_d2_45) fun v679 T679 Lc679 X679 hQ679 => ?_
  obtain ⟨rfl, Nq679, e679⟩ := hQ679
  have N680 := Fr.app N667 Nq679
  show own_Go _ _ _ _ _ (State.setTop _ (mkF _ 48 _ [(.int (0 : Int32)), (.ref o)]))
  refine own_putFN X679 hx hZ hown (own_hw hw 26 rfl) Via.refl e679 f674 f672 (Or.inr ⟨(own_hw hw 27 rfl), rfl, hnm⟩) (own_hw hw 2 rfl) (ty := .byte) (v' := (.int (0 : Int32))) (by decide) rfl rfl 51 rfl (hb hby own_d2_48) fun T681 h681 X681 e681 W681 => ?_
  have f682 := f672.wr W681
  have f683 := f673.other W681 (Or.inr (slot_ne (Or.inr (own_hw hw 29 rfl)) (Or.inr (own_hw hw 27 rfl)) (by decide) (t := (.array .byte)) (t' := .byte) (by decide) (by decide)))
  have f684 := f675.other W681 (Ne.symm ne_oa)
  have f685 := f676.wr W681
  have f686 := f666.other W681 (Ne.symm ne668)
  have z687 := Nat.le_trans z677 (Keep.of_wr W681).1
  have K688 := K678.wr W681 (Or.inl (List.mem_of_getElem? (i := 0) rfl))
  have f689 := f674.same W681
  have N690 := Fr.snoc X681 N680 g_o
  refine own_aloadN X681 hx 52 rfl (hb hby own_d2_51) rfl rfl ?_
  refine own_aload X681 hx 54 rfl (hb hby own_d2_52) rfl rfl ?_
  refine own_putF X681 hx hZ (host := "") hown (Or.inl (own_hw hw 28 rfl)) Via.refl e681 f683 f682 (Or.inr ⟨(own_hw hw 29 rfl), rfl, hnm⟩) (own_hw hw 2 rfl) (ty := (.array .byte)) (by decide) rfl rfl 57 rfl (hb hby own_d2_54) fun T691 h691 X691 e691 W691 => ?_
  have f692 := f682.wr W691
  have f693 := f684.other W691 (Ne.symm ne_oa)
  have f694 := f685.wr W691
  have f695 := f686.other W691 (Ne.symm ne668)
  have f696 := f689.other W691 (Or.inr (slot_ne (Or.inr (own_hw hw 27 rfl)) (Or.inr (own_hw hw 29 rfl)) (by decide) (t := .byte) (t' := (.array .byte)) (by decide) (by decide)))
  have z697 := Nat.le_trans z687 (Keep.of_wr W691).1
  have K698 := K688.wr W691 (Or.inl (List.mem_of_getElem? (i := 0) rfl))
  have f699 := f683.same W691
  have N700 := Fr.snoc X691 N690 g_o
  refine own_ret X691 none (fun _ => rfl) Bd.notSynchronized (by decide) (by decide) ?_ (fun fs hr => X691.returnOut hx Bd.returns (hb hby own_d2_57) hr)
  show Q_rm_str4 Z o a ka c0 c1 cs h0 n0 _ T691.heap _
  rw [e691]
  exact ⟨rfl, N700, K698, f692⟩
theorem own_ef_rm_str1 (m : MethodId) (o : Addr) (a : Addr) : entryFrame m #[(.ref o), (.ref a)] 2 = mkF m 0 #[.val (.ref o), .val (.ref a)] [] := by first | (simp [entryFrame, mkF, argsToLocals, Value.category]; done) | rfl
def Q_rm_str1 (Z : State) (o : Addr) (a : Addr) (ka : ClassId) (c0 : Int32) (c1 : Int32) (cs : Int32) (h0 : Heap) (n0 : Nat) (v : Option Value) (h : Heap) (L : List Loc) : Prop := v = none ∧ Fr n0 L ∧ Keep h0 h [o] ∧ Exa Z h o "java/lang/String"
theorem own_d1_0 : decode jdk_42_method_3_code 0 = .ok (.aload_n 0, 1) := by decide +kernel
theorem own_d1_1 : decode jdk_42_method_3_code 1 = .ok (.aload_n 1, 1) := by decide +kernel
theorem own_d1_2 : decode jdk_42_method_3_code 2 = .ok (.iconst 0, 1) := by decide +kernel
theorem own_d1_3 : decode jdk_42_method_3_code 3 = .ok (.aload_n 1, 1) := by decide +kernel
theorem own_d1_4 : decode jdk_42_method_3_code 4 = .ok (.arraylength, 1) := by decide +kernel
theorem own_d1_5 : decode jdk_42_method_3_code 5 = .ok (.aconst_null, 1) := by decide +kernel
theorem own_d1_6 : decode jdk_42_method_3_code 6 = .ok (.invokespecial 27, 3) := by decide +kernel
theorem own_pd19 : parseMethodDescriptor "([CIILjava/lang/Void;)V" = some ⟨[(.array .char), .int, .int, (.object "java/lang/Void")], none⟩ := by decide +kernel
theorem own_d1_9 : decode jdk_42_method_3_code 9 = .ok (.return_, 1) := by decide +kernel
set_option maxRecDepth 65536 in
set_option maxHeartbeats 40000000 in
theorem rm_str1 (l : Launch) (Z : State) (a0 : Array Value) (hw : ∀ d ∈ tables_1, d.before a0 Z = true) (ws : List Jvm.Cond) (o : Addr) (a : Addr) (ka : ClassId) (c0 : Int32) (c1 : Int32) (cs : Int32) (h0 : Heap) (n0 : Nat) (Z0 : n0 ≤ h0.size) (E1 : Exa Z h0 o "java/lang/String") (F1 : Fld Z h0 o "java/lang/String" "value" "[B" .null) (F2 : Fld Z h0 o "java/lang/String" "coder" "B" (.int (0 : Int32))) (g_o : n0 ≤ o) (A1 : Arv Z h0 a ka .char (2 : Int32) [(.int c0), (.int c1)] (.int (0 : Int32))) (hc0 : ¬ (255 : Int32) < c0) (hc1 : ¬ (255 : Int32) < c1) (ne_oa : o ≠ a) (S1 : Sta Z h0 "java/lang/String" "COMPACT_STRINGS" "Z" (.int cs)) (hcs : ¬ cs = 0) :
    MetFree l (⟨"java/lang/String", "<init>", "([C)V"⟩ : MethodName) (head1 (Jvm.Cond.code (⟨"java/lang/String", "<init>", "([C)V"⟩ : MethodName) jdk_42_method_3_code 2 none :: ws) ({ frames := 3, cells := 1, slots := 2, locals := 65 } : Room)) (fun aa U => aa = #[(.ref o), (.ref a)] ∧ Z.Warmed39 U.vm ∧ U.heap = h0) (fun _ _ _ _ _ => True) (fun _ U ou U' => ∃ v L, ou = .returned v ∧ Q_rm_str1 Z o a ka c0 c1 cs h0 n0 v U'.heap L ∧ FrameEnd U ou U' L ({ frames := 3, cells := 1, slots := 2, locals := 65 } : Room).cells ({ frames := 3, cells := 1, slots := 2, locals := 65 } : Room).slots) := by
  refine MetFree.of_bodySF (plainFor_of_name own_pn16) hisR ?_
  intro p e s m args below meth c s₁ Bd hml0 hP hK
  obtain ⟨rfl, hZ, hh⟩ := hP
  have hx := Bd.exec
  have hby := Bd.bytes
  have hml : c.maxLocals = 2 := hml0
  have hown : s.vm.findClass "java/lang/String" = some m.cls := findClass_of_methodNamed Bd.named
  have hnm := (name_of_methodNamed Bd.named Bd.method).1
  have X0 : Stand p l e ({ frames := 3, cells := 1, slots := 2, locals := 65 } : Room) s m #[(.ref o), (.ref a)] below meth c s₁ [] 0 0 := Stand.of_body Bd
  have e0 : s₁.heap = h0 := by rw [← hh, Bd.state]; rfl
  have N0 := Fr.nil n0
  have K0 := Keep.refl h0 [o]
  show own_Go p e below (fun o u L => FrameEnd s o u L ({ frames := 3, cells := 1, slots := 2, locals := 65 } : Room).cells ({ frames := 3, cells := 1, slots := 2, locals := 65 } : Room).slots) (Q_rm_str1 Z o a ka c0 c1 cs h0 n0) (s₁.setTop (entryFrame m #[(.ref o), (.ref a)] 2))
  rw [own_ef_rm_str1 m o a]
  show own_Go _ _ _ _ _ (State.setTop _ (mkF _ 0 #[.val (.ref o), .val (.ref a)] []))
  refine own_aloadN X0 hx 1 rfl (hb hby own_d1_0) rfl rfl ?_
  refine own_aloadN X0 hx 2 rfl (hb hby own_d1_1) rfl rfl ?_
  refine own_iconst X0 hx 3 rfl (hb hby own_d1_2) (0 : Int32) rfl ?_
  refine own_aloadN X0 hx 4 rfl (hb hby own_d1_3) rfl rfl ?_
  refine own_len X0 hx hZ e0 A1 5 rfl (hb hby own_d1_4) ?_
  refine own_aconst_null X0 hx 6 rfl (hb hby own_d1_5) ?_
  refine own_special X0 hx hZ (y := (⟨"java/lang/String", "<init>", "([CIILjava/lang/Void;)V"⟩ : MethodName)) hown rfl (own_hw hw 7 rfl) (own_hw hw 8 rfl) (a := o) (by decide) rfl (rm_str4 l Z a0 hw [] o a ka c0 c1 cs h0 n0 Z0 E1 F1 F2 g_o A1 hc0 hc1 ne_oa S1 hcs) (own_hw hw 10 rfl) (own_hw hw 3 rfl) (by decide) e0 (by rw [hml]; rfl) [(.ref a), (.int (0 : Int32)), (.int (2 : Int32)), .null] 0 (by decide) (Nat.le_of_eq rfl) (by decide) (by decide) (lenOf own_pd19 rfl) rfl rfl 9 rfl (hb hby own_d1_6) fun v701 T701 Lc701 X701 hQ701 => ?_
  obtain ⟨rfl, Nq701, Kq701, f702⟩ := hQ701
  have N703 := Fr.app N0 Nq701
  have f704 := E1.keep Kq701
  have f707 := A1.keep Kq701 (ninS (Ne.symm ne_oa) nin0)
  have f708 := own_staKeep S1 Kq701 (nsS E1.nostat ns0)
  have z709 := Nat.le_trans Z0 Kq701.1
  have K710 := K0.trans Kq701 (allS (Or.inl (List.mem_of_getElem? (i := 0) rfl)) all0)
  show own_Go _ _ _ _ _ (State.setTop _ (mkF _ 9 _ []))
  refine own_ret X701 none (fun _ => rfl) Bd.notSynchronized (by decide) (by decide) ?_ (fun fs hr => X701.returnOut hx Bd.returns (hb hby own_d1_9) hr)
  show Q_rm_str1 Z o a ka c0 c1 cs h0 n0 _ T701.heap _
  exact ⟨rfl, N703, K710, f702⟩
theorem own_ef_rm_eq (m : MethodId) (o : Addr) (o : Addr) : entryFrame m #[(.ref o), (.ref o)] 3 = mkF m 0 #[.val (.ref o), .val (.ref o), .unset] [] := by first | (simp [entryFrame, mkF, argsToLocals, Value.category]; done) | rfl
def Q_rm_eq (Z : State) (o : Addr) (h0 : Heap) (n0 : Nat) (v : Option Value) (h : Heap) (L : List Loc) : Prop := v = some (.int (1 : Int32)) ∧ Fr n0 L ∧ h = h0
theorem own_d39_0 : decode jdk_42_method_66_code 0 = .ok (.aload_n 0, 1) := by decide +kernel
theorem own_d39_1 : decode jdk_42_method_66_code 1 = .ok (.aload_n 1, 1) := by decide +kernel
theorem own_d39_2 : decode jdk_42_method_66_code 2 = .ok (.if_acmp .ne 5, 3) := by decide +kernel
theorem own_d39_5 : decode jdk_42_method_66_code 5 = .ok (.iconst 1, 1) := by decide +kernel
theorem own_d39_6 : decode jdk_42_method_66_code 6 = .ok (.ireturn, 1) := by decide +kernel
set_option maxRecDepth 65536 in
set_option maxHeartbeats 40000000 in
theorem rm_eq (l : Launch) (Z : State) (a0 : Array Value) (hw : ∀ d ∈ tables_1, d.before a0 Z = true) (ws : List Jvm.Cond) (o : Addr) (h0 : Heap) (n0 : Nat) (Z0 : n0 ≤ h0.size)  :
    MetFree l (⟨"java/lang/String", "equals", "(Ljava/lang/Object;)Z"⟩ : MethodName) (head1 (Jvm.Cond.code (⟨"java/lang/String", "equals", "(Ljava/lang/Object;)Z"⟩ : MethodName) jdk_42_method_66_code 3 (some .boolean) :: ws) ({ frames := 0, cells := 0, slots := 0, locals := 0 } : Room)) (fun aa U => aa = #[(.ref o), (.ref o)] ∧ Z.Warmed39 U.vm ∧ U.heap = h0) (fun _ _ _ _ _ => True) (fun _ U ou U' => ∃ v L, ou = .returned v ∧ Q_rm_eq Z o h0 n0 v U'.heap L ∧ FrameEnd U ou U' L ({ frames := 0, cells := 0, slots := 0, locals := 0 } : Room).cells ({ frames := 0, cells := 0, slots := 0, locals := 0 } : Room).slots) := by
  refine MetFree.of_bodySF (plainFor_of_name own_pn16) hisR ?_
  intro p e s m args below meth c s₁ Bd hml0 hP hK
  obtain ⟨rfl, hZ, hh⟩ := hP
  have hx := Bd.exec
  have hby := Bd.bytes
  have hml : c.maxLocals = 3 := hml0
  have hown : s.vm.findClass "java/lang/String" = some m.cls := findClass_of_methodNamed Bd.named
  have hnm := (name_of_methodNamed Bd.named Bd.method).1
  have X0 : Stand p l e ({ frames := 0, cells := 0, slots := 0, locals := 0 } : Room) s m #[(.ref o), (.ref o)] below meth c s₁ [] 0 0 := Stand.of_body Bd
  have e0 : s₁.heap = h0 := by rw [← hh, Bd.state]; rfl
  have N0 := Fr.nil n0
  show own_Go p e below (fun o u L => FrameEnd s o u L ({ frames := 0, cells := 0, slots := 0, locals := 0 } : Room).cells ({ frames := 0, cells := 0, slots := 0, locals := 0 } : Room).slots) (Q_rm_eq Z o h0 n0) (s₁.setTop (entryFrame m #[(.ref o), (.ref o)] 3))
  rw [own_ef_rm_eq m o o]
  show own_Go _ _ _ _ _ (State.setTop _ (mkF _ 0 #[.val (.ref o), .val (.ref o), .unset] []))
  refine own_aloadN X0 hx 1 rfl (hb hby own_d39_0) rfl rfl ?_
  refine own_aloadN X0 hx 2 rfl (hb hby own_d39_1) rfl rfl ?_
  refine own_acmp X0 hx true 5 (hb hby own_d39_2) rfl rfl (decide_eq_true rfl) (by decide) (by decide) ?_
  refine own_iconst X0 hx 6 rfl (hb hby own_d39_5) (1 : Int32) rfl ?_
  refine own_ret X0 (some (.int (1 : Int32))) (fun h => by rw [Bd.returns] at h; cases h) Bd.notSynchronized (by decide) (by decide) ?_ (fun fs hr => retN X0 hx (t := .boolean) Bd.returns (by simp) (hb hby own_d39_6) hr)
  show Q_rm_eq Z o h0 n0 _ s₁.heap _
  rw [e0]
  exact ⟨rfl, N0, rfl⟩
theorem own_ef_rm_count0 (m : MethodId) (o : Addr) (nm : Addr) (y1 : Int64) : entryFrame m #[(.ref o), (.ref nm), (.long y1)] 4 = mkF m 0 #[.val (.ref o), .val (.ref nm), .val (.long y1), .second] [] := by first | (simp [entryFrame, mkF, argsToLocals, Value.category]; done) | rfl
def Q_rm_count0 (Z : State) (o : Addr) (nm : Addr) (y1 : Int64) (li : Addr) (mc : Int32) (aE : Addr) (kE : ClassId) (h0 : Heap) (n0 : Nat) (v : Option Value) (h : Heap) (L : List Loc) : Prop := ∃ (f : Addr) (r : Addr) (b : Addr) (kb : ClassId), v = some (.ref o) ∧ Fr n0 L ∧ Keep h0 h [li] ∧ h0.size ≤ f ∧ (r < n0 ∨ h0.size ≤ r) ∧ h0.size ≤ b ∧ f ≠ b ∧ r ≠ b ∧ Exa Z h f "com/example/measured_reasoner/measuredreasoner/Summary$Field" ∧ Fld Z h f "com/example/measured_reasoner/measuredreasoner/Summary$Field" "name" "Ljava/lang/String;" (.ref nm) ∧ Fld Z h f "com/example/measured_reasoner/measuredreasoner/Summary$Field" "value" "Ljava/lang/Number;" (.ref r) ∧ Exa Z h r "java/lang/Long" ∧ Fld Z h r "java/lang/Long" "value" "J" (.long y1) ∧ Exa Z h li "java/util/ArrayList" ∧ Fld Z h li "java/util/AbstractList" "modCount" "I" (.int (mc + (1 : Int32))) ∧ Fld Z h li "java/util/ArrayList" "elementData" "[Ljava/lang/Object;" (.ref b) ∧ Fld Z h li "java/util/ArrayList" "size" "I" (.int (1 : Int32)) ∧ Arv Z h b kb (.object "java/lang/Object") (10 : Int32) [(.ref f), .null, .null, .null, .null, .null, .null, .null, .null, .null] .null ∧ Ovr Z kb "java/lang/Object"
theorem own_d42_0 : decode prog_19_method_2_code 0 = .ok (.aload_n 0, 1) := by decide +kernel
theorem own_d42_1 : decode prog_19_method_2_code 1 = .ok (.getfield 10, 3) := by decide +kernel
theorem own_d42_4 : decode prog_19_method_2_code 4 = .ok (.new 16, 3) := by decide +kernel
theorem own_d42_7 : decode prog_19_method_2_code 7 = .ok (.dup, 1) := by decide +kernel
theorem own_d42_8 : decode prog_19_method_2_code 8 = .ok (.aload_n 1, 1) := by decide +kernel
theorem own_d42_9 : decode prog_19_method_2_code 9 = .ok (.lload_n 2, 1) := by decide +kernel
theorem own_d42_10 : decode prog_19_method_2_code 10 = .ok (.invokestatic 18, 3) := by decide +kernel
theorem own_pd20 : parseMethodDescriptor "(J)Ljava/lang/Long;" = some ⟨[.long], some (.object "java/lang/Long")⟩ := by decide +kernel
theorem own_d42_13 : decode prog_19_method_2_code 13 = .ok (.invokespecial 24, 3) := by decide +kernel
theorem own_pd21 : parseMethodDescriptor "(Ljava/lang/String;Ljava/lang/Number;)V" = some ⟨[(.object "java/lang/String"), (.object "java/lang/Number")], none⟩ := by decide +kernel
theorem own_d42_16 : decode prog_19_method_2_code 16 = .ok (.invokeinterface 27 2, 5) := by decide +kernel
theorem own_pd22 : parseMethodDescriptor "(Ljava/lang/Object;)Z" = some ⟨[(.object "java/lang/Object")], some .boolean⟩ := by decide +kernel
theorem own_d42_21 : decode prog_19_method_2_code 21 = .ok (.pop, 1) := by decide +kernel
theorem own_d42_22 : decode prog_19_method_2_code 22 = .ok (.aload_n 0, 1) := by decide +kernel
theorem own_d42_23 : decode prog_19_method_2_code 23 = .ok (.areturn, 1) := by decide +kernel
set_option maxRecDepth 65536 in
set_option maxHeartbeats 40000000 in
theorem rm_count0 (l : Launch) (Z : State) (a0 : Array Value) (hw : ∀ d ∈ tables_1, d.before a0 Z = true) (ws : List Jvm.Cond) (o : Addr) (nm : Addr) (y1 : Int64) (li : Addr) (mc : Int32) (aE : Addr) (kE : ClassId) (h0 : Heap) (n0 : Nat) (Z0 : n0 ≤ h0.size) (F0 : Fld Z h0 o "com/example/measured_reasoner/measuredreasoner/Summary" "fields" "Ljava/util/List;" (.ref li)) (E1 : Exa Z h0 li "java/util/ArrayList") (F1 : Fld Z h0 li "java/util/AbstractList" "modCount" "I" (.int mc)) (F2 : Fld Z h0 li "java/util/ArrayList" "elementData" "[Ljava/lang/Object;" (.ref aE)) (F3 : Fld Z h0 li "java/util/ArrayList" "size" "I" (.int (0 : Int32))) (A1 : Arv Z h0 aE kE (.object "java/lang/Object") (0 : Int32) [] .null) (S1 : Sta Z h0 "java/util/ArrayList" "DEFAULTCAPACITY_EMPTY_ELEMENTDATA" "[Ljava/lang/Object;" (.ref aE)) (ne_lE : li ≠ aE) (g_l : n0 ≤ li) (C1 : own_Ca Z h0 n0) :
    MetFree l (⟨"com/example/measured_reasoner/measuredreasoner/Summary", "count", "(Ljava/lang/String;J)Lcom/example/measured_reasoner/measuredreasoner/Summary;"⟩ : MethodName) (head1 (Jvm.Cond.code (⟨"com/example/measured_reasoner/measuredreasoner/Summary", "count", "(Ljava/lang/String;J)Lcom/example/measured_reasoner/measuredreasoner/Summary;"⟩ : MethodName) prog_19_method_2_code 4 (some (.object "com/example/measured_reasoner/measuredreasoner/Summary")) :: ws) ({ frames := 6, cells := 3, slots := 16, locals := 110 } : Room)) (fun aa U => aa = #[(.ref o), (.ref nm), (.long y1)] ∧ Z.Warmed39 U.vm ∧ U.heap = h0) (fun _ _ _ _ _ => True) (fun _ U ou U' => ∃ v L, ou = .returned v ∧ Q_rm_count0 Z o nm y1 li mc aE kE h0 n0 v U'.heap L ∧ FrameEnd U ou U' L ({ frames := 6, cells := 3, slots := 16, locals := 110 } : Room).cells ({ frames := 6, cells := 3, slots := 16, locals := 110 } : Room).slots) := by
  refine MetFree.of_bodySF (plainFor_of_name own_pn5) hisR ?_
  intro p e s m args below meth c s₁ Bd hml0 hP hK
  obtain ⟨rfl, hZ, hh⟩ := hP
  have hx := Bd.exec
  have hby := Bd.bytes
  have hml : c.maxLocals = 4 := hml0
  have hown : s.vm.findClass "com/example/measured_reasoner/measuredreasoner/Summary" = some m.cls := findClass_of_methodNamed Bd.named
  have hnm := (name_of_methodNamed Bd.named Bd.method).1
  have X0 : Stand p l e ({ frames := 6, cells := 3, slots := 16, locals := 110 } : Room) s m #[(.ref o), (.ref nm), (.long y1)] below meth c s₁ [] 0 0 := Stand.of_body Bd
  have e0 : s₁.heap = h0 := by rw [← hh, Bd.state]; rfl
  have N0 := Fr.nil n0
  have K0 := Keep.refl h0 [li]
  show own_Go p e below (fun o u L => FrameEnd s o u L ({ frames := 6, cells := 3, slots := 16, locals := 110 } : Room).cells ({ frames := 6, cells := 3, slots := 16, locals := 110 } : Room).slots) (Q_rm_count0 Z o nm y1 li mc aE kE h0 n0) (s₁.setTop (entryFrame m #[(.ref o), (.ref nm), (.long y1)] 4))
  rw [own_ef_rm_count0 m o nm y1]
  show own_Go _ _ _ _ _ (State.setTop _ (mkF _ 0 #[.val (.ref o), .val (.ref nm), .val (.long y1), .second] []))
  refine own_aloadN X0 hx 1 rfl (hb hby own_d42_0) rfl rfl ?_
  refine own_getF X0 hx hZ (host := "") hown (Or.inl (own_hw hw 77 rfl)) Via.refl e0 F0 4 rfl (hb hby own_d42_1) fun T711 X711 e711 => ?_
  refine own_new X711 hx hZ hown (own_hw hw 84 rfl) (own_hw hw 85 rfl) (own_hw hw 86 rfl) e711 7 rfl (hb hby own_d42_4) (by decide) (by decide) fun T712 h712 b712 g712 X712 e712 E712 A712 D712 => ?_
  have ne713 : li ≠ b712 := Nat.ne_of_lt (Nat.lt_of_lt_of_le E1.lt (Nat.le_of_eq g712.symm))
  have ne714 : aE ≠ b712 := Nat.ne_of_lt (Nat.lt_of_lt_of_le A1.lt (Nat.le_of_eq g712.symm))
  have ge715 : n0 ≤ b712 := Nat.le_trans Z0 (Nat.le_of_eq g712.symm)
  have sz716 : h0.size ≤ b712 := Nat.le_trans K0.1 (Nat.le_of_eq g712.symm)
  have f717 := E1.ext E712
  have f718 := F1.ext E712
  have f719 := F2.ext E712
  have f720 := F3.ext E712
  have f721 := A1.ext E712
  have f722 := S1.ext E712
  have f723 := C1.ext E712
  have z724 := Nat.le_trans Z0 E712.1
  have K725 := K0.ext E712
  have f726 : Fld Z h712 b712 "com/example/measured_reasoner/measuredreasoner/Summary$Field" "name" "Ljava/lang/String;" .null := D712 (Or.inr (own_hw hw 116 rfl)) (ty := (.object "java/lang/String")) (by decide)
  have f727 : Fld Z h712 b712 "com/example/measured_reasoner/measuredreasoner/Summary$Field" "value" "Ljava/lang/Number;" .null := D712 (Or.inr (own_hw hw 118 rfl)) (ty := (.object "java/lang/Number")) (by decide)
  refine own_dup X712 hx 8 rfl (hb hby own_d42_7) rfl ?_
  refine own_aloadN X712 hx 9 rfl (hb hby own_d42_8) rfl rfl ?_
  refine own_lloadN X712 hx 10 rfl (hb hby own_d42_9) rfl ?_
  refine own_callS X712 hx hZ (y := (⟨"java/lang/Long", "valueOf", "(J)Ljava/lang/Long;"⟩ : MethodName)) hown (own_hw hw 274 rfl) (own_hw hw 275 rfl) (by decide) (rm_longv l Z a0 hw [] y1 h712 n0 z724 f723) (own_hw hw 277 rfl) (own_hw hw 276 rfl) (by decide) e712 (by rw [hml]; rfl) [(.long y1)] 4 (by decide) (Nat.le_of_eq rfl) (by decide) (by decide) (lenOf own_pd20 rfl) rfl rfl 13 rfl (hb hby own_d42_10) fun v728 T728 Lc728 X728 hQ728 => ?_
  obtain ⟨r_728, rfl, Nq728, Kq728, sd0_728, f729, f730⟩ := hQ728
  have N731 := Fr.app N0 Nq728
  have ne732 : li ≠ r_728 := own_on sd0_728 g_l f717.lt
  have ne733 : b712 ≠ r_728 := own_on sd0_728 ge715 A712.lt
  have on_r_728 : r_728 < n0 ∨ h0.size ≤ r_728 := sd0_728.imp id fun q => Nat.le_trans K725.1 q
  have f734 := f717.keep Kq728
  have f735 := f718.keep Kq728 nin0
  have f736 := f719.keep Kq728 nin0
  have f737 := f720.keep Kq728 nin0
  have f738 := f721.keep Kq728 nin0
  have f739 := own_staKeep f722 Kq728 ns0
  have f740 := A712.keep Kq728
  have f741 := f726.keep Kq728 nin0
  have f742 := f727.keep Kq728 nin0
  have z743 := Nat.le_trans z724 Kq728.1
  have K744 := K725.trans Kq728 all0
  have f745 := f723.keep Kq728 all0 ns0
  show own_Go _ _ _ _ _ (State.setTop _ (mkF _ 13 _ [(.ref r_728), (.ref nm), (.ref b712), (.ref b712), (.ref li)]))
  refine own_special X728 hx hZ (y := (⟨"com/example/measured_reasoner/measuredreasoner/Summary$Field", "<init>", "(Ljava/lang/String;Ljava/lang/Number;)V"⟩ : MethodName)) hown rfl (own_hw hw 106 rfl) (own_hw hw 107 rfl) (a := b712) (by decide) rfl (rm_fdi l Z a0 hw [] b712 nm r_728 T728.heap n0 z743 f740 f741 f742 ge715) (own_hw hw 108 rfl) (own_hw hw 86 rfl) (by decide) rfl (by rw [hml]; rfl) [(.ref nm), (.ref r_728)] 2 (by decide) (Nat.le_of_eq rfl) (by decide) (by decide) (lenOf own_pd21 rfl) rfl rfl 16 rfl (hb hby own_d42_13) fun v746 T746 Lc746 X746 hQ746 => ?_
  obtain ⟨rfl, Nq746, Kq746, f747, f748, f749⟩ := hQ746
  have N750 := Fr.app N731 Nq746
  have f751 := f734.keep Kq746
  have f752 := f735.keep Kq746 (ninS ne713 nin0)
  have f753 := f736.keep Kq746 (ninS ne713 nin0)
  have f754 := f737.keep Kq746 (ninS ne713 nin0)
  have f755 := f738.keep Kq746 (ninS ne714 nin0)
  have f756 := own_staKeep f739 Kq746 (nsS f740.nostat ns0)
  have f757 := f740.keep Kq746
  have f760 := f729.keep Kq746
  have f761 := f730.keep Kq746 (ninS (Ne.symm ne733) nin0)
  have z762 := Nat.le_trans z743 Kq746.1
  have K763 := K744.trans Kq746 (allS (Or.inr sz716) all0)
  have f764 := f745.keep Kq746 (allS ge715 all0) (nsS f740.nostat ns0)
  show own_Go _ _ _ _ _ (State.setTop _ (mkF _ 16 _ [(.ref b712), (.ref li)]))
  refine own_iface X746 hx hZ (C := "java/util/ArrayList") (xi := (⟨"java/util/List", "add", "(Ljava/lang/Object;)Z"⟩ : MethodName)) (y := (⟨"java/util/ArrayList", "add", "(Ljava/lang/Object;)Z"⟩ : MethodName)) hown (own_hw hw 119 rfl) (own_hw hw 120 rfl) (own_hw hw 121 rfl) rfl (own_hw hw 122 rfl) (own_hw hw 123 rfl) (own_hw hw 124 rfl) (own_hw hw 125 rfl) (own_hw hw 126 rfl) (a := li) f751 (by decide) (rm_add0 l Z a0 hw [] li aE kE mc b712 T746.heap n0 z762 f751 f752 f753 f754 f755 f756 g_l ne_lE f747) (own_hw hw 127 rfl) (own_hw hw 55 rfl) (by decide) rfl (by rw [hml]; rfl) [(.ref b712)] 0 (by decide) (Nat.le_of_eq rfl) (by decide) (by decide) (lenOf own_pd22 rfl) rfl rfl 21 rfl (hb hby own_d42_16) fun v765 T765 Lc765 X765 hQ765 => ?_
  obtain ⟨b_765, kb_765, rfl, Nq765, Kq765, sd0_765, f766, f767, f768, f769, f770, f771⟩ := hQ765
  have N772 := Fr.app N750 Nq765
  have ne773 : li ≠ b_765 := Nat.ne_of_lt (Nat.lt_of_lt_of_le f751.lt sd0_765)
  have ne774 : aE ≠ b_765 := Nat.ne_of_lt (Nat.lt_of_lt_of_le f755.lt sd0_765)
  have ne775 : b712 ≠ b_765 := Nat.ne_of_lt (Nat.lt_of_lt_of_le f747.lt sd0_765)
  have ne776 : r_728 ≠ b_765 := Nat.ne_of_lt (Nat.lt_of_lt_of_le f760.lt sd0_765)
  have ge777 : n0 ≤ b_765 := Nat.le_trans z762 sd0_765
  have sz778 : h0.size ≤ b_765 := Nat.le_trans K763.1 sd0_765
  have f779 := f751.keep Kq765
  have f783 := f755.keep Kq765 (ninS (Ne.symm ne_lE) nin0)
  have f784 := own_staKeep f756 Kq765 (nsS f751.nostat ns0)
  have f785 := f747.keep Kq765
  have f786 := f760.keep Kq765
  have f787 := f761.keep Kq765 (ninS (Ne.symm ne732) nin0)
  have f788 := f748.keep Kq765 (ninS (Ne.symm ne713) nin0)
  have f789 := f749.keep Kq765 (ninS (Ne.symm ne713) nin0)
  have z790 := Nat.le_trans z762 Kq765.1
  have K791 := K763.trans Kq765 (allS (Or.inl (List.mem_of_getElem? (i := 0) rfl)) all0)
  have f792 := f764.keep Kq765 (allS g_l all0) (nsS f751.nostat ns0)
  show own_Go _ _ _ _ _ (State.setTop _ (mkF _ 21 _ [(.int (1 : Int32))]))
  refine own_pop X765 hx 22 rfl (hb hby own_d42_21) rfl ?_
  refine own_aloadN X765 hx 23 rfl (hb hby own_d42_22) rfl rfl ?_
  refine own_ret X765 (some (.ref o)) (fun h => by rw [Bd.returns] at h; cases h) Bd.notSynchronized (by decide) (by decide) ?_ (fun fs hr => own_retR X765 hx Bd.returns rfl rfl (hb hby own_d42_23) hr)
  show Q_rm_count0 Z o nm y1 li mc aE kE h0 n0 _ T765.heap _
  exact ⟨b712, r_728, b_765, kb_765, rfl, N772, K791, sz716, on_r_728, sz778, ne775, ne776, f785, f788, f789, f786, f787, f766, f767, f768, f769, f770, f771⟩
theorem own_ef_rm_mean0 (m : MethodId) (o : Addr) (nm : Addr) (y1 : UInt64) : entryFrame m #[(.ref o), (.ref nm), (.double y1)] 4 = mkF m 0 #[.val (.ref o), .val (.ref nm), .val (.double y1), .second] [] := by first | (simp [entryFrame, mkF, argsToLocals, Value.category]; done) | rfl
def Q_rm_mean0 (Z : State) (o : Addr) (nm : Addr) (y1 : UInt64) (li : Addr) (mc : Int32) (aE : Addr) (kE : ClassId) (h0 : Heap) (n0 : Nat) (v : Option Value) (h : Heap) (L : List Loc) : Prop := ∃ (f : Addr) (r : Addr) (b : Addr) (kb : ClassId), v = some (.ref o) ∧ Fr n0 L ∧ Keep h0 h [li] ∧ h0.size ≤ f ∧ (r < n0 ∨ h0.size ≤ r) ∧ h0.size ≤ b ∧ f ≠ b ∧ r ≠ b ∧ Exa Z h f "com/example/measured_reasoner/measuredreasoner/Summary$Field" ∧ Fld Z h f "com/example/measured_reasoner/measuredreasoner/Summary$Field" "name" "Ljava/lang/String;" (.ref nm) ∧ Fld Z h f "com/example/measured_reasoner/measuredreasoner/Summary$Field" "value" "Ljava/lang/Number;" (.ref r) ∧ Exa Z h r "java/lang/Double" ∧ Fld Z h r "java/lang/Double" "value" "D" (.double y1) ∧ Exa Z h li "java/util/ArrayList" ∧ Fld Z h li "java/util/AbstractList" "modCount" "I" (.int (mc + (1 : Int32))) ∧ Fld Z h li "java/util/ArrayList" "elementData" "[Ljava/lang/Object;" (.ref b) ∧ Fld Z h li "java/util/ArrayList" "size" "I" (.int (1 : Int32)) ∧ Arv Z h b kb (.object "java/lang/Object") (10 : Int32) [(.ref f), .null, .null, .null, .null, .null, .null, .null, .null, .null] .null ∧ Ovr Z kb "java/lang/Object"
theorem own_d15_0 : decode prog_19_method_3_code 0 = .ok (.aload_n 0, 1) := by decide +kernel
theorem own_d15_1 : decode prog_19_method_3_code 1 = .ok (.getfield 10, 3) := by decide +kernel
theorem own_d15_4 : decode prog_19_method_3_code 4 = .ok (.new 16, 3) := by decide +kernel
theorem own_d15_7 : decode prog_19_method_3_code 7 = .ok (.dup, 1) := by decide +kernel
theorem own_d15_8 : decode prog_19_method_3_code 8 = .ok (.aload_n 1, 1) := by decide +kernel
theorem own_d15_9 : decode prog_19_method_3_code 9 = .ok (.dload_n 2, 1) := by decide +kernel
theorem own_d15_10 : decode prog_19_method_3_code 10 = .ok (.invokestatic 33, 3) := by decide +kernel
theorem own_pd23 : parseMethodDescriptor "(D)Ljava/lang/Double;" = some ⟨[.double], some (.object "java/lang/Double")⟩ := by decide +kernel
theorem own_d15_13 : decode prog_19_method_3_code 13 = .ok (.invokespecial 24, 3) := by decide +kernel
theorem own_d15_16 : decode prog_19_method_3_code 16 = .ok (.invokeinterface 27 2, 5) := by decide +kernel
theorem own_d15_21 : decode prog_19_method_3_code 21 = .ok (.pop, 1) := by decide +kernel
theorem own_d15_22 : decode prog_19_method_3_code 22 = .ok (.aload_n 0, 1) := by decide +kernel
theorem own_d15_23 : decode prog_19_method_3_code 23 = .ok (.areturn, 1) := by decide +kernel
set_option maxRecDepth 65536 in
set_option maxHeartbeats 40000000 in
theorem rm_mean0 (l : Launch) (Z : State) (a0 : Array Value) (hw : ∀ d ∈ tables_1, d.before a0 Z = true) (ws : List Jvm.Cond) (o : Addr) (nm : Addr) (y1 : UInt64) (li : Addr) (mc : Int32) (aE : Addr) (kE : ClassId) (h0 : Heap) (n0 : Nat) (Z0 : n0 ≤ h0.size) (F0 : Fld Z h0 o "com/example/measured_reasoner/measuredreasoner/Summary" "fields" "Ljava/util/List;" (.ref li)) (E1 : Exa Z h0 li "java/util/ArrayList") (F1 : Fld Z h0 li "java/util/AbstractList" "modCount" "I" (.int mc)) (F2 : Fld Z h0 li "java/util/ArrayList" "elementData" "[Ljava/lang/Object;" (.ref aE)) (F3 : Fld Z h0 li "java/util/ArrayList" "size" "I" (.int (0 : Int32))) (A1 : Arv Z h0 aE kE (.object "java/lang/Object") (0 : Int32) [] .null) (S1 : Sta Z h0 "java/util/ArrayList" "DEFAULTCAPACITY_EMPTY_ELEMENTDATA" "[Ljava/lang/Object;" (.ref aE)) (ne_lE : li ≠ aE) (g_l : n0 ≤ li) :
    MetFree l (⟨"com/example/measured_reasoner/measuredreasoner/Summary", "mean", "(Ljava/lang/String;D)Lcom/example/measured_reasoner/measuredreasoner/Summary;"⟩ : MethodName) (head1 (Jvm.Cond.code (⟨"com/example/measured_reasoner/measuredreasoner/Summary", "mean", "(Ljava/lang/String;D)Lcom/example/measured_reasoner/measuredreasoner/Summary;"⟩ : MethodName) prog_19_method_3_code 4 (some (.object "com/example/measured_reasoner/measuredreasoner/Summary")) :: ws) ({ frames := 6, cells := 3, slots := 16, locals := 110 } : Room)) (fun aa U => aa = #[(.ref o), (.ref nm), (.double y1)] ∧ Z.Warmed39 U.vm ∧ U.heap = h0) (fun _ _ _ _ _ => True) (fun _ U ou U' => ∃ v L, ou = .returned v ∧ Q_rm_mean0 Z o nm y1 li mc aE kE h0 n0 v U'.heap L ∧ FrameEnd U ou U' L ({ frames := 6, cells := 3, slots := 16, locals := 110 } : Room).cells ({ frames := 6, cells := 3, slots := 16, locals := 110 } : Room).slots) := by
  refine MetFree.of_bodySF (plainFor_of_name own_pn5) hisR ?_
  intro p e s m args below meth c s₁ Bd hml0 hP hK
  obtain ⟨rfl, hZ, hh⟩ := hP
  have hx := Bd.exec
  have hby := Bd.bytes
  have hml : c.maxLocals = 4 := hml0
  have hown : s.vm.findClass "com/example/measured_reasoner/measuredreasoner/Summary" = some m.cls := findClass_of_methodNamed Bd.named
  have hnm := (name_of_methodNamed Bd.named Bd.method).1
  have X0 : Stand p l e ({ frames := 6, cells := 3, slots := 16, locals := 110 } : Room) s m #[(.ref o), (.ref nm), (.double y1)] below meth c s₁ [] 0 0 := Stand.of_body Bd
  have e0 : s₁.heap = h0 := by rw [← hh, Bd.state]; rfl
  have N0 := Fr.nil n0
  have K0 := Keep.refl h0 [li]
  show own_Go p e below (fun o u L => FrameEnd s o u L ({ frames := 6, cells := 3, slots := 16, locals := 110 } : Room).cells ({ frames := 6, cells := 3, slots := 16, locals := 110 } : Room).slots) (Q_rm_mean0 Z o nm y1 li mc aE kE h0 n0) (s₁.setTop (entryFrame m #[(.ref o), (.ref nm), (.double y1)] 4))
  rw [own_ef_rm_mean0 m o nm y1]
  show own_Go _ _ _ _ _ (State.setTop _ (mkF _ 0 #[.val (.ref o), .val (.ref nm), .val (.double y1), .second] []))
  refine own_aloadN X0 hx 1 rfl (hb hby own_d15_0) rfl rfl ?_
  refine own_getF X0 hx hZ (host := "") hown (Or.inl (own_hw hw 77 rfl)) Via.refl e0 F0 4 rfl (hb hby own_d15_1) fun T793 X793 e793 => ?_
  refine own_new X793 hx hZ hown (own_hw hw 84 rfl) (own_hw hw 85 rfl) (own_hw hw 86 rfl) e793 7 rfl (hb hby own_d15_4) (by decide) (by decide) fun T794 h794 b794 g794 X794 e794 E794 A794 D794 => ?_
  have ne795 : li ≠ b794 := Nat.ne_of_lt (Nat.lt_of_lt_of_le E1.lt (Nat.le_of_eq g794.symm))
  have ne796 : aE ≠ b794 := Nat.ne_of_lt (Nat.lt_of_lt_of_le A1.lt (Nat.le_of_eq g794.symm))
  have ge797 : n0 ≤ b794 := Nat.le_trans Z0 (Nat.le_of_eq g794.symm)
  have sz798 : h0.size ≤ b794 := Nat.le_trans K0.1 (Nat.le_of_eq g794.symm)
  have f799 := E1.ext E794
  have f800 := F1.ext E794
  have f801 := F2.ext E794
  have f802 := F3.ext E794
  have f803 := A1.ext E794
  have f804 := S1.ext E794
  have z805 := Nat.le_trans Z0 E794.1
  have K806 := K0.ext E794
  have f807 : Fld Z h794 b794 "com/example/measured_reasoner/measuredreasoner/Summary$Field" "name" "Ljava/lang/String;" .null := D794 (Or.inr (own_hw hw 116 rfl)) (ty := (.object "java/lang/String")) (by decide)
  have f808 : Fld Z h794 b794 "com/example/measured_reasoner/measuredreasoner/Summary$Field" "value" "Ljava/lang/Number;" .null := D794 (Or.inr (own_hw hw 118 rfl)) (ty := (.object "java/lang/Number")) (by decide)
  refine own_dup X794 hx 8 rfl (hb hby own_d15_7) rfl ?_
  refine own_aloadN X794 hx 9 rfl (hb hby own_d15_8) rfl rfl ?_
  refine own_dloadN X794 hx 10 rfl (hb hby own_d15_9) rfl ?_
  refine own_callS X794 hx hZ (y := (⟨"java/lang/Double", "valueOf", "(D)Ljava/lang/Double;"⟩ : MethodName)) hown (own_hw hw 87 rfl) (own_hw hw 88 rfl) (by decide) (rm_dblv l Z a0 hw [] y1 h794 n0 z805 ) (own_hw hw 90 rfl) (own_hw hw 89 rfl) (by decide) e794 (by rw [hml]; rfl) [(.double y1)] 4 (by decide) (Nat.le_of_eq rfl) (by decide) (by decide) (lenOf own_pd23 rfl) rfl rfl 13 rfl (hb hby own_d15_10) fun v809 T809 Lc809 X809 hQ809 => ?_
  obtain ⟨r_809, rfl, Nq809, Kq809, sd0_809, f810, f811⟩ := hQ809
  have N812 := Fr.app N0 Nq809
  have ne813 : li ≠ r_809 := own_on sd0_809 g_l f799.lt
  have ne814 : b794 ≠ r_809 := own_on sd0_809 ge797 A794.lt
  have on_r_809 : r_809 < n0 ∨ h0.size ≤ r_809 := sd0_809.imp id fun q => Nat.le_trans K806.1 q
  have f815 := f799.keep Kq809
  have f816 := f800.keep Kq809 nin0
  have f817 := f801.keep Kq809 nin0
  have f818 := f802.keep Kq809 nin0
  have f819 := f803.keep Kq809 nin0
  have f820 := own_staKeep f804 Kq809 ns0
  have f821 := A794.keep Kq809
  have f822 := f807.keep Kq809 nin0
  have f823 := f808.keep Kq809 nin0
  have z824 := Nat.le_trans z805 Kq809.1
  have K825 := K806.trans Kq809 all0
  show own_Go _ _ _ _ _ (State.setTop _ (mkF _ 13 _ [(.ref r_809), (.ref nm), (.ref b794), (.ref b794), (.ref li)]))
  refine own_special X809 hx hZ (y := (⟨"com/example/measured_reasoner/measuredreasoner/Summary$Field", "<init>", "(Ljava/lang/String;Ljava/lang/Number;)V"⟩ : MethodName)) hown rfl (own_hw hw 106 rfl) (own_hw hw 107 rfl) (a := b794) (by decide) rfl (rm_fdi l Z a0 hw [] b794 nm r_809 T809.heap n0 z824 f821 f822 f823 ge797) (own_hw hw 108 rfl) (own_hw hw 86 rfl) (by decide) rfl (by rw [hml]; rfl) [(.ref nm), (.ref r_809)] 2 (by decide) (Nat.le_of_eq rfl) (by decide) (by decide) (lenOf own_pd21 rfl) rfl rfl 16 rfl (hb hby own_d15_13) fun v826 T826 Lc826 X826 hQ826 => ?_
  obtain ⟨rfl, Nq826, Kq826, f827, f828, f829⟩ := hQ826
  have N830 := Fr.app N812 Nq826
  have f831 := f815.keep Kq826
  have f832 := f816.keep Kq826 (ninS ne795 nin0)
  have f833 := f817.keep Kq826 (ninS ne795 nin0)
  have f834 := f818.keep Kq826 (ninS ne795 nin0)
  have f835 := f819.keep Kq826 (ninS ne796 nin0)
  have f836 := own_staKeep f820 Kq826 (nsS f821.nostat ns0)
  have f837 := f821.keep Kq826
  have f840 := f810.keep Kq826
  have f841 := f811.keep Kq826 (ninS (Ne.symm ne814) nin0)
  have z842 := Nat.le_trans z824 Kq826.1
  have K843 := K825.trans Kq826 (allS (Or.inr sz798) all0)
  show own_Go _ _ _ _ _ (State.setTop _ (mkF _ 16 _ [(.ref b794), (.ref li)]))
  refine own_iface X826 hx hZ (C := "java/util/ArrayList") (xi := (⟨"java/util/List", "add", "(Ljava/lang/Object;)Z"⟩ : MethodName)) (y := (⟨"java/util/ArrayList", "add", "(Ljava/lang/Object;)Z"⟩ : MethodName)) hown (own_hw hw 119 rfl) (own_hw hw 120 rfl) (own_hw hw 121 rfl) rfl (own_hw hw 122 rfl) (own_hw hw 123 rfl) (own_hw hw 124 rfl) (own_hw hw 125 rfl) (own_hw hw 126 rfl) (a := li) f831 (by decide) (rm_add0 l Z a0 hw [] li aE kE mc b794 T826.heap n0 z842 f831 f832 f833 f834 f835 f836 g_l ne_lE f827) (own_hw hw 127 rfl) (own_hw hw 55 rfl) (by decide) rfl (by rw [hml]; rfl) [(.ref b794)] 0 (by decide) (Nat.le_of_eq rfl) (by decide) (by decide) (lenOf own_pd22 rfl) rfl rfl 21 rfl (hb hby own_d15_16) fun v844 T844 Lc844 X844 hQ844 => ?_
  obtain ⟨b_844, kb_844, rfl, Nq844, Kq844, sd0_844, f845, f846, f847, f848, f849, f850⟩ := hQ844
  have N851 := Fr.app N830 Nq844
  have ne852 : li ≠ b_844 := Nat.ne_of_lt (Nat.lt_of_lt_of_le f831.lt sd0_844)
  have ne853 : aE ≠ b_844 := Nat.ne_of_lt (Nat.lt_of_lt_of_le f835.lt sd0_844)
  have ne854 : b794 ≠ b_844 := Nat.ne_of_lt (Nat.lt_of_lt_of_le f827.lt sd0_844)
  have ne855 : r_809 ≠ b_844 := Nat.ne_of_lt (Nat.lt_of_lt_of_le f840.lt sd0_844)
  have ge856 : n0 ≤ b_844 := Nat.le_trans z842 sd0_844
  have sz857 : h0.size ≤ b_844 := Nat.le_trans K843.1 sd0_844
  have f858 := f831.keep Kq844
  have f862 := f835.keep Kq844 (ninS (Ne.symm ne_lE) nin0)
  have f863 := own_staKeep f836 Kq844 (nsS f831.nostat ns0)
  have f864 := f827.keep Kq844
  have f865 := f840.keep Kq844
  have f866 := f841.keep Kq844 (ninS (Ne.symm ne813) nin0)
  have f867 := f828.keep Kq844 (ninS (Ne.symm ne795) nin0)
  have f868 := f829.keep Kq844 (ninS (Ne.symm ne795) nin0)
  have z869 := Nat.le_trans z842 Kq844.1
  have K870 := K843.trans Kq844 (allS (Or.inl (List.mem_of_getElem? (i := 0) rfl)) all0)
  show own_Go _ _ _ _ _ (State.setTop _ (mkF _ 21 _ [(.int (1 : Int32))]))
  refine own_pop X844 hx 22 rfl (hb hby own_d15_21) rfl ?_
  refine own_aloadN X844 hx 23 rfl (hb hby own_d15_22) rfl rfl ?_
  refine own_ret X844 (some (.ref o)) (fun h => by rw [Bd.returns] at h; cases h) Bd.notSynchronized (by decide) (by decide) ?_ (fun fs hr => own_retR X844 hx Bd.returns rfl rfl (hb hby own_d15_23) hr)
  show Q_rm_mean0 Z o nm y1 li mc aE kE h0 n0 _ T844.heap _
  exact ⟨b794, r_809, b_844, kb_844, rfl, N851, K870, sz798, on_r_809, sz857, ne854, ne855, f864, f867, f868, f865, f866, f845, f846, f847, f848, f849, f850⟩
theorem own_ef_rm_mean1 (m : MethodId) (o : Addr) (nm : Addr) (y1 : UInt64) : entryFrame m #[(.ref o), (.ref nm), (.double y1)] 4 = mkF m 0 #[.val (.ref o), .val (.ref nm), .val (.double y1), .second] [] := by first | (simp [entryFrame, mkF, argsToLocals, Value.category]; done) | rfl
def Q_rm_mean1 (Z : State) (o : Addr) (nm : Addr) (y1 : UInt64) (li : Addr) (mc : Int32) (a : Addr) (ka : ClassId) (xe0 : Addr) (h0 : Heap) (n0 : Nat) (v : Option Value) (h : Heap) (L : List Loc) : Prop := ∃ (f : Addr) (r : Addr), v = some (.ref o) ∧ Fr n0 L ∧ Keep h0 h [li, a] ∧ h0.size ≤ f ∧ (r < n0 ∨ h0.size ≤ r) ∧ Exa Z h f "com/example/measured_reasoner/measuredreasoner/Summary$Field" ∧ Fld Z h f "com/example/measured_reasoner/measuredreasoner/Summary$Field" "name" "Ljava/lang/String;" (.ref nm) ∧ Fld Z h f "com/example/measured_reasoner/measuredreasoner/Summary$Field" "value" "Ljava/lang/Number;" (.ref r) ∧ Exa Z h r "java/lang/Double" ∧ Fld Z h r "java/lang/Double" "value" "D" (.double y1) ∧ Exa Z h li "java/util/ArrayList" ∧ Fld Z h li "java/util/AbstractList" "modCount" "I" (.int (mc + (1 : Int32))) ∧ Fld Z h li "java/util/ArrayList" "elementData" "[Ljava/lang/Object;" (.ref a) ∧ Fld Z h li "java/util/ArrayList" "size" "I" (.int (2 : Int32)) ∧ Arv Z h a ka (.object "java/lang/Object") (10 : Int32) [(.ref xe0), (.ref f), .null, .null, .null, .null, .null, .null, .null, .null] .null
set_option maxRecDepth 65536 in
set_option maxHeartbeats 40000000 in
theorem rm_mean1 (l : Launch) (Z : State) (a0 : Array Value) (hw : ∀ d ∈ tables_1, d.before a0 Z = true) (ws : List Jvm.Cond) (o : Addr) (nm : Addr) (y1 : UInt64) (li : Addr) (mc : Int32) (a : Addr) (ka : ClassId) (xe0 : Addr) (h0 : Heap) (n0 : Nat) (Z0 : n0 ≤ h0.size) (F0 : Fld Z h0 o "com/example/measured_reasoner/measuredreasoner/Summary" "fields" "Ljava/util/List;" (.ref li)) (E1 : Exa Z h0 li "java/util/ArrayList") (F1 : Fld Z h0 li "java/util/AbstractList" "modCount" "I" (.int mc)) (F2 : Fld Z h0 li "java/util/ArrayList" "elementData" "[Ljava/lang/Object;" (.ref a)) (F3 : Fld Z h0 li "java/util/ArrayList" "size" "I" (.int (1 : Int32))) (A1 : Arv Z h0 a ka (.object "java/lang/Object") (10 : Int32) [(.ref xe0), .null, .null, .null, .null, .null, .null, .null, .null, .null] .null) (O1 : Ovr Z ka "java/lang/Object") (g_a : n0 ≤ a) (ne_la : li ≠ a) (g_l : n0 ≤ li) :
    MetFree l (⟨"com/example/measured_reasoner/measuredreasoner/Summary", "mean", "(Ljava/lang/String;D)Lcom/example/measured_reasoner/measuredreasoner/Summary;"⟩ : MethodName) (head1 (Jvm.Cond.code (⟨"com/example/measured_reasoner/measuredreasoner/Summary", "mean", "(Ljava/lang/String;D)Lcom/example/measured_reasoner/measuredreasoner/Summary;"⟩ : MethodName) prog_19_method_3_code 4 (some (.object "com/example/measured_reasoner/measuredreasoner/Summary")) :: ws) ({ frames := 4, cells := 2, slots := 6, locals := 70 } : Room)) (fun aa U => aa = #[(.ref o), (.ref nm), (.double y1)] ∧ Z.Warmed39 U.vm ∧ U.heap = h0) (fun _ _ _ _ _ => True) (fun _ U ou U' => ∃ v L, ou = .returned v ∧ Q_rm_mean1 Z o nm y1 li mc a ka xe0 h0 n0 v U'.heap L ∧ FrameEnd U ou U' L ({ frames := 4, cells := 2, slots := 6, locals := 70 } : Room).cells ({ frames := 4, cells := 2, slots := 6, locals := 70 } : Room).slots) := by
  refine MetFree.of_bodySF (plainFor_of_name own_pn5) hisR ?_
  intro p e s m args below meth c s₁ Bd hml0 hP hK
  obtain ⟨rfl, hZ, hh⟩ := hP
  have hx := Bd.exec
  have hby := Bd.bytes
  have hml : c.maxLocals = 4 := hml0
  have hown : s.vm.findClass "com/example/measured_reasoner/measuredreasoner/Summary" = some m.cls := findClass_of_methodNamed Bd.named
  have hnm := (name_of_methodNamed Bd.named Bd.method).1
  have X0 : Stand p l e ({ frames := 4, cells := 2, slots := 6, locals := 70 } : Room) s m #[(.ref o), (.ref nm), (.double y1)] below meth c s₁ [] 0 0 := Stand.of_body Bd
  have e0 : s₁.heap = h0 := by rw [← hh, Bd.state]; rfl
  have N0 := Fr.nil n0
  have K0 := Keep.refl h0 [li, a]
  show own_Go p e below (fun o u L => FrameEnd s o u L ({ frames := 4, cells := 2, slots := 6, locals := 70 } : Room).cells ({ frames := 4, cells := 2, slots := 6, locals := 70 } : Room).slots) (Q_rm_mean1 Z o nm y1 li mc a ka xe0 h0 n0) (s₁.setTop (entryFrame m #[(.ref o), (.ref nm), (.double y1)] 4))
  rw [own_ef_rm_mean1 m o nm y1]
  show own_Go _ _ _ _ _ (State.setTop _ (mkF _ 0 #[.val (.ref o), .val (.ref nm), .val (.double y1), .second] []))
  refine own_aloadN X0 hx 1 rfl (hb hby own_d15_0) rfl rfl ?_
  refine own_getF X0 hx hZ (host := "") hown (Or.inl (own_hw hw 77 rfl)) Via.refl e0 F0 4 rfl (hb hby own_d15_1) fun T871 X871 e871 => ?_
  refine own_new X871 hx hZ hown (own_hw hw 84 rfl) (own_hw hw 85 rfl) (own_hw hw 86 rfl) e871 7 rfl (hb hby own_d15_4) (by decide) (by decide) fun T872 h872 b872 g872 X872 e872 E872 A872 D872 => ?_
  have ne873 : li ≠ b872 := Nat.ne_of_lt (Nat.lt_of_lt_of_le E1.lt (Nat.le_of_eq g872.symm))
  have ne874 : a ≠ b872 := Nat.ne_of_lt (Nat.lt_of_lt_of_le A1.lt (Nat.le_of_eq g872.symm))
  have ge875 : n0 ≤ b872 := Nat.le_trans Z0 (Nat.le_of_eq g872.symm)
  have sz876 : h0.size ≤ b872 := Nat.le_trans K0.1 (Nat.le_of_eq g872.symm)
  have f877 := E1.ext E872
  have f878 := F1.ext E872
  have f879 := F2.ext E872
  have f880 := F3.ext E872
  have f881 := A1.ext E872
  have z882 := Nat.le_trans Z0 E872.1
  have K883 := K0.ext E872
  have f884 : Fld Z h872 b872 "com/example/measured_reasoner/measuredreasoner/Summary$Field" "name" "Ljava/lang/String;" .null := D872 (Or.inr (own_hw hw 116 rfl)) (ty := (.object "java/lang/String")) (by decide)
  have f885 : Fld Z h872 b872 "com/example/measured_reasoner/measuredreasoner/Summary$Field" "value" "Ljava/lang/Number;" .null := D872 (Or.inr (own_hw hw 118 rfl)) (ty := (.object "java/lang/Number")) (by decide)
  refine own_dup X872 hx 8 rfl (hb hby own_d15_7) rfl ?_
  refine own_aloadN X872 hx 9 rfl (hb hby own_d15_8) rfl rfl ?_
  refine own_dloadN X872 hx 10 rfl (hb hby own_d15_9) rfl ?_
  refine own_callS X872 hx hZ (y := (⟨"java/lang/Double", "valueOf", "(D)Ljava/lang/Double;"⟩ : MethodName)) hown (own_hw hw 87 rfl) (own_hw hw 88 rfl) (by decide) (rm_dblv l Z a0 hw [] y1 h872 n0 z882 ) (own_hw hw 90 rfl) (own_hw hw 89 rfl) (by decide) e872 (by rw [hml]; rfl) [(.double y1)] 4 (by decide) (Nat.le_of_eq rfl) (by decide) (by decide) (lenOf own_pd23 rfl) rfl rfl 13 rfl (hb hby own_d15_10) fun v886 T886 Lc886 X886 hQ886 => ?_
  obtain ⟨r_886, rfl, Nq886, Kq886, sd0_886, f887, f888⟩ := hQ886
  have N889 := Fr.app N0 Nq886
  have ne890 : li ≠ r_886 := own_on sd0_886 g_l f877.lt
  have ne891 : a ≠ r_886 := own_on sd0_886 g_a f881.lt
  have ne892 : b872 ≠ r_886 := own_on sd0_886 ge875 A872.lt
  have on_r_886 : r_886 < n0 ∨ h0.size ≤ r_886 := sd0_886.imp id fun q => Nat.le_trans K883.1 q
  have f893 := f877.keep Kq886
  have f894 := f878.keep Kq886 nin0
  have f895 := f879.keep Kq886 nin0
  have f896 := f880.keep Kq886 nin0
  have f897 := f881.keep Kq886 nin0
  have f898 := A872.keep Kq886
  have f899 := f884.keep Kq886 nin0
  have f900 := f885.keep Kq886 nin0
  have z901 := Nat.le_trans z882 Kq886.1
  have K902 := K883.trans Kq886 all0
  show own_Go _ _ _ _ _ (State.setTop _ (mkF _ 13 _ [(.ref r_886), (.ref nm), (.ref b872), (.ref b872), (.ref li)]))
  refine own_special X886 hx hZ (y := (⟨"com/example/measured_reasoner/measuredreasoner/Summary$Field", "<init>", "(Ljava/lang/String;Ljava/lang/Number;)V"⟩ : MethodName)) hown rfl (own_hw hw 106 rfl) (own_hw hw 107 rfl) (a := b872) (by decide) rfl (rm_fdi l Z a0 hw [] b872 nm r_886 T886.heap n0 z901 f898 f899 f900 ge875) (own_hw hw 108 rfl) (own_hw hw 86 rfl) (by decide) rfl (by rw [hml]; rfl) [(.ref nm), (.ref r_886)] 2 (by decide) (Nat.le_of_eq rfl) (by decide) (by decide) (lenOf own_pd21 rfl) rfl rfl 16 rfl (hb hby own_d15_13) fun v903 T903 Lc903 X903 hQ903 => ?_
  obtain ⟨rfl, Nq903, Kq903, f904, f905, f906⟩ := hQ903
  have N907 := Fr.app N889 Nq903
  have f908 := f893.keep Kq903
  have f909 := f894.keep Kq903 (ninS ne873 nin0)
  have f910 := f895.keep Kq903 (ninS ne873 nin0)
  have f911 := f896.keep Kq903 (ninS ne873 nin0)
  have f912 := f897.keep Kq903 (ninS ne874 nin0)
  have f913 := f898.keep Kq903
  have f916 := f887.keep Kq903
  have f917 := f888.keep Kq903 (ninS (Ne.symm ne892) nin0)
  have z918 := Nat.le_trans z901 Kq903.1
  have K919 := K902.trans Kq903 (allS (Or.inr sz876) all0)
  show own_Go _ _ _ _ _ (State.setTop _ (mkF _ 16 _ [(.ref b872), (.ref li)]))
  refine own_iface X903 hx hZ (C := "java/util/ArrayList") (xi := (⟨"java/util/List", "add", "(Ljava/lang/Object;)Z"⟩ : MethodName)) (y := (⟨"java/util/ArrayList", "add", "(Ljava/lang/Object;)Z"⟩ : MethodName)) hown (own_hw hw 119 rfl) (own_hw hw 120 rfl) (own_hw hw 121 rfl) rfl (own_hw hw 122 rfl) (own_hw hw 123 rfl) (own_hw hw 124 rfl) (own_hw hw 125 rfl) (own_hw hw 126 rfl) (a := li) f908 (by decide) (rm_add1 l Z a0 hw [] li a ka mc b872 xe0 T903.heap n0 z918 f908 f909 f910 f911 f912 O1 g_l g_a ne_la f904) (own_hw hw 127 rfl) (own_hw hw 55 rfl) (by decide) rfl (by rw [hml]; rfl) [(.ref b872)] 0 (by decide) (Nat.le_of_eq rfl) (by decide) (by decide) (lenOf own_pd22 rfl) rfl rfl 21 rfl (hb hby own_d15_16) fun v920 T920 Lc920 X920 hQ920 => ?_
  obtain ⟨rfl, Nq920, Kq920, f921, f922, f923, f924, f925⟩ := hQ920
  have N926 := Fr.app N907 Nq920
  have f927 := f908.keep Kq920
  have f932 := f904.keep Kq920
  have f933 := f916.keep Kq920
  have f934 := f917.keep Kq920 (ninS (Ne.symm ne890) (ninS (Ne.symm ne891) nin0))
  have f935 := f905.keep Kq920 (ninS (Ne.symm ne873) (ninS (Ne.symm ne874) nin0))
  have f936 := f906.keep Kq920 (ninS (Ne.symm ne873) (ninS (Ne.symm ne874) nin0))
  have z937 := Nat.le_trans z918 Kq920.1
  have K938 := K919.trans Kq920 (allS (Or.inl (List.mem_of_getElem? (i := 0) rfl)) (allS (Or.inl (List.mem_of_getElem? (i := 1) rfl)) all0))
  show own_Go _ _ _ _ _ (State.setTop _ (mkF _ 21 _ [(.int (1 : Int32))]))
  refine own_pop X920 hx 22 rfl (hb hby own_d15_21) rfl ?_
  refine own_aloadN X920 hx 23 rfl (hb hby own_d15_22) rfl rfl ?_
  refine own_ret X920 (some (.ref o)) (fun h => by rw [Bd.returns] at h; cases h) Bd.notSynchronized (by decide) (by decide) ?_ (fun fs hr => own_retR X920 hx Bd.returns rfl rfl (hb hby own_d15_23) hr)
  show Q_rm_mean1 Z o nm y1 li mc a ka xe0 h0 n0 _ T920.heap _
  exact ⟨b872, r_886, rfl, N926, K938, sz876, on_r_886, f932, f935, f936, f933, f934, f921, f922, f923, f924, f925⟩
theorem own_ef_rm_mean2 (m : MethodId) (o : Addr) (nm : Addr) (y1 : UInt64) : entryFrame m #[(.ref o), (.ref nm), (.double y1)] 4 = mkF m 0 #[.val (.ref o), .val (.ref nm), .val (.double y1), .second] [] := by first | (simp [entryFrame, mkF, argsToLocals, Value.category]; done) | rfl
def Q_rm_mean2 (Z : State) (o : Addr) (nm : Addr) (y1 : UInt64) (li : Addr) (mc : Int32) (a : Addr) (ka : ClassId) (xe0 : Addr) (xe1 : Addr) (h0 : Heap) (n0 : Nat) (v : Option Value) (h : Heap) (L : List Loc) : Prop := ∃ (f : Addr) (r : Addr), v = some (.ref o) ∧ Fr n0 L ∧ Keep h0 h [li, a] ∧ h0.size ≤ f ∧ (r < n0 ∨ h0.size ≤ r) ∧ Exa Z h f "com/example/measured_reasoner/measuredreasoner/Summary$Field" ∧ Fld Z h f "com/example/measured_reasoner/measuredreasoner/Summary$Field" "name" "Ljava/lang/String;" (.ref nm) ∧ Fld Z h f "com/example/measured_reasoner/measuredreasoner/Summary$Field" "value" "Ljava/lang/Number;" (.ref r) ∧ Exa Z h r "java/lang/Double" ∧ Fld Z h r "java/lang/Double" "value" "D" (.double y1) ∧ Exa Z h li "java/util/ArrayList" ∧ Fld Z h li "java/util/AbstractList" "modCount" "I" (.int (mc + (1 : Int32))) ∧ Fld Z h li "java/util/ArrayList" "elementData" "[Ljava/lang/Object;" (.ref a) ∧ Fld Z h li "java/util/ArrayList" "size" "I" (.int (3 : Int32)) ∧ Arv Z h a ka (.object "java/lang/Object") (10 : Int32) [(.ref xe0), (.ref xe1), (.ref f), .null, .null, .null, .null, .null, .null, .null] .null
set_option maxRecDepth 65536 in
set_option maxHeartbeats 40000000 in
theorem rm_mean2 (l : Launch) (Z : State) (a0 : Array Value) (hw : ∀ d ∈ tables_1, d.before a0 Z = true) (ws : List Jvm.Cond) (o : Addr) (nm : Addr) (y1 : UInt64) (li : Addr) (mc : Int32) (a : Addr) (ka : ClassId) (xe0 : Addr) (xe1 : Addr) (h0 : Heap) (n0 : Nat) (Z0 : n0 ≤ h0.size) (F0 : Fld Z h0 o "com/example/measured_reasoner/measuredreasoner/Summary" "fields" "Ljava/util/List;" (.ref li)) (E1 : Exa Z h0 li "java/util/ArrayList") (F1 : Fld Z h0 li "java/util/AbstractList" "modCount" "I" (.int mc)) (F2 : Fld Z h0 li "java/util/ArrayList" "elementData" "[Ljava/lang/Object;" (.ref a)) (F3 : Fld Z h0 li "java/util/ArrayList" "size" "I" (.int (2 : Int32))) (A1 : Arv Z h0 a ka (.object "java/lang/Object") (10 : Int32) [(.ref xe0), (.ref xe1), .null, .null, .null, .null, .null, .null, .null, .null] .null) (O1 : Ovr Z ka "java/lang/Object") (g_a : n0 ≤ a) (ne_la : li ≠ a) (g_l : n0 ≤ li) :
    MetFree l (⟨"com/example/measured_reasoner/measuredreasoner/Summary", "mean", "(Ljava/lang/String;D)Lcom/example/measured_reasoner/measuredreasoner/Summary;"⟩ : MethodName) (head1 (Jvm.Cond.code (⟨"com/example/measured_reasoner/measuredreasoner/Summary", "mean", "(Ljava/lang/String;D)Lcom/example/measured_reasoner/measuredreasoner/Summary;"⟩ : MethodName) prog_19_method_3_code 4 (some (.object "com/example/measured_reasoner/measuredreasoner/Summary")) :: ws) ({ frames := 4, cells := 2, slots := 6, locals := 70 } : Room)) (fun aa U => aa = #[(.ref o), (.ref nm), (.double y1)] ∧ Z.Warmed39 U.vm ∧ U.heap = h0) (fun _ _ _ _ _ => True) (fun _ U ou U' => ∃ v L, ou = .returned v ∧ Q_rm_mean2 Z o nm y1 li mc a ka xe0 xe1 h0 n0 v U'.heap L ∧ FrameEnd U ou U' L ({ frames := 4, cells := 2, slots := 6, locals := 70 } : Room).cells ({ frames := 4, cells := 2, slots := 6, locals := 70 } : Room).slots) := by
  refine MetFree.of_bodySF (plainFor_of_name own_pn5) hisR ?_
  intro p e s m args below meth c s₁ Bd hml0 hP hK
  obtain ⟨rfl, hZ, hh⟩ := hP
  have hx := Bd.exec
  have hby := Bd.bytes
  have hml : c.maxLocals = 4 := hml0
  have hown : s.vm.findClass "com/example/measured_reasoner/measuredreasoner/Summary" = some m.cls := findClass_of_methodNamed Bd.named
  have hnm := (name_of_methodNamed Bd.named Bd.method).1
  have X0 : Stand p l e ({ frames := 4, cells := 2, slots := 6, locals := 70 } : Room) s m #[(.ref o), (.ref nm), (.double y1)] below meth c s₁ [] 0 0 := Stand.of_body Bd
  have e0 : s₁.heap = h0 := by rw [← hh, Bd.state]; rfl
  have N0 := Fr.nil n0
  have K0 := Keep.refl h0 [li, a]
  show own_Go p e below (fun o u L => FrameEnd s o u L ({ frames := 4, cells := 2, slots := 6, locals := 70 } : Room).cells ({ frames := 4, cells := 2, slots := 6, locals := 70 } : Room).slots) (Q_rm_mean2 Z o nm y1 li mc a ka xe0 xe1 h0 n0) (s₁.setTop (entryFrame m #[(.ref o), (.ref nm), (.double y1)] 4))
  rw [own_ef_rm_mean2 m o nm y1]
  show own_Go _ _ _ _ _ (State.setTop _ (mkF _ 0 #[.val (.ref o), .val (.ref nm), .val (.double y1), .second] []))
  refine own_aloadN X0 hx 1 rfl (hb hby own_d15_0) rfl rfl ?_
  refine own_getF X0 hx hZ (host := "") hown (Or.inl (own_hw hw 77 rfl)) Via.refl e0 F0 4 rfl (hb hby own_d15_1) fun T939 X939 e939 => ?_
  refine own_new X939 hx hZ hown (own_hw hw 84 rfl) (own_hw hw 85 rfl) (own_hw hw 86 rfl) e939 7 rfl (hb hby own_d15_4) (by decide) (by decide) fun T940 h940 b940 g940 X940 e940 E940 A940 D940 => ?_
  have ne941 : li ≠ b940 := Nat.ne_of_lt (Nat.lt_of_lt_of_le E1.lt (Nat.le_of_eq g940.symm))
  have ne942 : a ≠ b940 := Nat.ne_of_lt (Nat.lt_of_lt_of_le A1.lt (Nat.le_of_eq g940.symm))
  have ge943 : n0 ≤ b940 := Nat.le_trans Z0 (Nat.le_of_eq g940.symm)
  have sz944 : h0.size ≤ b940 := Nat.le_trans K0.1 (Nat.le_of_eq g940.symm)
  have f945 := E1.ext E940
  have f946 := F1.ext E940
  have f947 := F2.ext E940
  have f948 := F3.ext E940
  have f949 := A1.ext E940
  have z950 := Nat.le_trans Z0 E940.1
  have K951 := K0.ext E940
  have f952 : Fld Z h940 b940 "com/example/measured_reasoner/measuredreasoner/Summary$Field" "name" "Ljava/lang/String;" .null := D940 (Or.inr (own_hw hw 116 rfl)) (ty := (.object "java/lang/String")) (by decide)
  have f953 : Fld Z h940 b940 "com/example/measured_reasoner/measuredreasoner/Summary$Field" "value" "Ljava/lang/Number;" .null := D940 (Or.inr (own_hw hw 118 rfl)) (ty := (.object "java/lang/Number")) (by decide)
  refine own_dup X940 hx 8 rfl (hb hby own_d15_7) rfl ?_
  refine own_aloadN X940 hx 9 rfl (hb hby own_d15_8) rfl rfl ?_
  refine own_dloadN X940 hx 10 rfl (hb hby own_d15_9) rfl ?_
  refine own_callS X940 hx hZ (y := (⟨"java/lang/Double", "valueOf", "(D)Ljava/lang/Double;"⟩ : MethodName)) hown (own_hw hw 87 rfl) (own_hw hw 88 rfl) (by decide) (rm_dblv l Z a0 hw [] y1 h940 n0 z950 ) (own_hw hw 90 rfl) (own_hw hw 89 rfl) (by decide) e940 (by rw [hml]; rfl) [(.double y1)] 4 (by decide) (Nat.le_of_eq rfl) (by decide) (by decide) (lenOf own_pd23 rfl) rfl rfl 13 rfl (hb hby own_d15_10) fun v954 T954 Lc954 X954 hQ954 => ?_
  obtain ⟨r_954, rfl, Nq954, Kq954, sd0_954, f955, f956⟩ := hQ954
  have N957 := Fr.app N0 Nq954
  have ne958 : li ≠ r_954 := own_on sd0_954 g_l f945.lt
  have ne959 : a ≠ r_954 := own_on sd0_954 g_a f949.lt
  have ne960 : b940 ≠ r_954 := own_on sd0_954 ge943 A940.lt
  have on_r_954 : r_954 < n0 ∨ h0.size ≤ r_954 := sd0_954.imp id fun q => Nat.le_trans K951.1 q
  have f961 := f945.keep Kq954
  have f962 := f946.keep Kq954 nin0
  have f963 := f947.keep Kq954 nin0
  have f964 := f948.keep Kq954 nin0
  have f965 := f949.keep Kq954 nin0
  have f966 := A940.keep Kq954
  have f967 := f952.keep Kq954 nin0
  have f968 := f953.keep Kq954 nin0
  have z969 := Nat.le_trans z950 Kq954.1
  have K970 := K951.trans Kq954 all0
  show own_Go _ _ _ _ _ (State.setTop _ (mkF _ 13 _ [(.ref r_954), (.ref nm), (.ref b940), (.ref b940), (.ref li)]))
  refine own_special X954 hx hZ (y := (⟨"com/example/measured_reasoner/measuredreasoner/Summary$Field", "<init>", "(Ljava/lang/String;Ljava/lang/Number;)V"⟩ : MethodName)) hown rfl (own_hw hw 106 rfl) (own_hw hw 107 rfl) (a := b940) (by decide) rfl (rm_fdi l Z a0 hw [] b940 nm r_954 T954.heap n0 z969 f966 f967 f968 ge943) (own_hw hw 108 rfl) (own_hw hw 86 rfl) (by decide) rfl (by rw [hml]; rfl) [(.ref nm), (.ref r_954)] 2 (by decide) (Nat.le_of_eq rfl) (by decide) (by decide) (lenOf own_pd21 rfl) rfl rfl 16 rfl (hb hby own_d15_13) fun v971 T971 Lc971 X971 hQ971 => ?_
  obtain ⟨rfl, Nq971, Kq971, f972, f973, f974⟩ := hQ971
  have N975 := Fr.app N957 Nq971
  have f976 := f961.keep Kq971
  have f977 := f962.keep Kq971 (ninS ne941 nin0)
  have f978 := f963.keep Kq971 (ninS ne941 nin0)
  have f979 := f964.keep Kq971 (ninS ne941 nin0)
  have f980 := f965.keep Kq971 (ninS ne942 nin0)
  have f981 := f966.keep Kq971
  have f984 := f955.keep Kq971
  have f985 := f956.keep Kq971 (ninS (Ne.symm ne960) nin0)
  have z986 := Nat.le_trans z969 Kq971.1
  have K987 := K970.trans Kq971 (allS (Or.inr sz944) all0)
  show own_Go _ _ _ _ _ (State.setTop _ (mkF _ 16 _ [(.ref b940), (.ref li)]))
  refine own_iface X971 hx hZ (C := "java/util/ArrayList") (xi := (⟨"java/util/List", "add", "(Ljava/lang/Object;)Z"⟩ : MethodName)) (y := (⟨"java/util/ArrayList", "add", "(Ljava/lang/Object;)Z"⟩ : MethodName)) hown (own_hw hw 119 rfl) (own_hw hw 120 rfl) (own_hw hw 121 rfl) rfl (own_hw hw 122 rfl) (own_hw hw 123 rfl) (own_hw hw 124 rfl) (own_hw hw 125 rfl) (own_hw hw 126 rfl) (a := li) f976 (by decide) (rm_add2 l Z a0 hw [] li a ka mc b940 xe0 xe1 T971.heap n0 z986 f976 f977 f978 f979 f980 O1 g_l g_a ne_la f972) (own_hw hw 127 rfl) (own_hw hw 55 rfl) (by decide) rfl (by rw [hml]; rfl) [(.ref b940)] 0 (by decide) (Nat.le_of_eq rfl) (by decide) (by decide) (lenOf own_pd22 rfl) rfl rfl 21 rfl (hb hby own_d15_16) fun v988 T988 Lc988 X988 hQ988 => ?_
  obtain ⟨rfl, Nq988, Kq988, f989, f990, f991, f992, f993⟩ := hQ988
  have N994 := Fr.app N975 Nq988
  have f995 := f976.keep Kq988
  have f1000 := f972.keep Kq988
  have f1001 := f984.keep Kq988
  have f1002 := f985.keep Kq988 (ninS (Ne.symm ne958) (ninS (Ne.symm ne959) nin0))
  have f1003 := f973.keep Kq988 (ninS (Ne.symm ne941) (ninS (Ne.symm ne942) nin0))
  have f1004 := f974.keep Kq988 (ninS (Ne.symm ne941) (ninS (Ne.symm ne942) nin0))
  have z1005 := Nat.le_trans z986 Kq988.1
  have K1006 := K987.trans Kq988 (allS (Or.inl (List.mem_of_getElem? (i := 0) rfl)) (allS (Or.inl (List.mem_of_getElem? (i := 1) rfl)) all0))
  show own_Go _ _ _ _ _ (State.setTop _ (mkF _ 21 _ [(.int (1 : Int32))]))
  refine own_pop X988 hx 22 rfl (hb hby own_d15_21) rfl ?_
  refine own_aloadN X988 hx 23 rfl (hb hby own_d15_22) rfl rfl ?_
  refine own_ret X988 (some (.ref o)) (fun h => by rw [Bd.returns] at h; cases h) Bd.notSynchronized (by decide) (by decide) ?_ (fun fs hr => own_retR X988 hx Bd.returns rfl rfl (hb hby own_d15_23) hr)
  show Q_rm_mean2 Z o nm y1 li mc a ka xe0 xe1 h0 n0 _ T988.heap _
  exact ⟨b940, r_954, rfl, N994, K1006, sz944, on_r_954, f1000, f1003, f1004, f1001, f1002, f989, f990, f991, f992, f993⟩
theorem own_lc (y : Int64) : lcmpW y y = 0 := Int32.toInt_inj.mp ((c_lcmp y y).2.1 rfl)
theorem own_eight : own_is (4620693217682128896 : UInt64) 8 0 := by
  have v : FP.Core.val64 (4620693217682128896 : UInt64) = .fin false (2 ^ 52) (-49) := by decide +kernel
  refine ⟨⟨_, _, _, v⟩, ?_⟩
  show FP.Core.zval FP.Core.b64 (FP.Core.val64 (4620693217682128896 : UInt64)) * _ = _
  rw [v, own_U_eq]
  decide +kernel
theorem own_four : own_is (4616189618054758400 : UInt64) 4 0 := by
  have v : FP.Core.val64 (4616189618054758400 : UInt64) = .fin false (2 ^ 52) (-50) := by decide +kernel
  refine ⟨⟨_, _, _, v⟩, ?_⟩
  show FP.Core.zval FP.Core.b64 (FP.Core.val64 (4616189618054758400 : UInt64)) * _ = _
  rw [v, own_U_eq]
  decide +kernel
theorem own_dn {x y : UInt64} (hx : FP.Core.DFin x) (hy : FP.Core.DFin y) (h0 : 0 < own_z y) : FP.Core.val64 (FP.Core.ddiv x y) ≠ .nan := by
  obtain ⟨s, c, q, e1⟩ := hx
  obtain ⟨t, d, r, e2⟩ := hy
  have d0 : d ≠ 0 := fun k => by rw [own_zv e2, k, Nat.zero_mul, FP.Core.signed_zero] at h0; exact Int.lt_irrefl _ h0
  rw [own_quot e1 e2 d0]
  exact FP.Core.roundRatio_ne_nan _ _ _ _ _
def own_d1 (i : Int32) : UInt64 := FP.ddiv (FP.i2d i) (4620693217682128896 : UInt64)
def own_d2 (i : Int32) : UInt64 := FP.ddiv (FP.i2d i) (4616189618054758400 : UInt64)
theorem own_d1n (i : Int32) : FP.Core.val64 (own_d1 i) ≠ .nan := own_dn (own_is.i2d i).1 own_eight.1 (own_eight.pos (by decide))
theorem own_d2n (i : Int32) : FP.Core.val64 (own_d2 i) ≠ .nan := own_dn (own_is.i2d i).1 own_four.1 (own_four.pos (by decide))
theorem own_self {x : UInt64} (hx : FP.Core.val64 x ≠ .nan) : cmpValue (FP.dcmp x x) .l = 0 := own_cmp_eq hx hx rfl .l
theorem own_ef_rm_lval (m : MethodId) (o : Addr) : entryFrame m #[(.ref o)] 1 = mkF m 0 #[.val (.ref o)] [] := by first | (simp [entryFrame, mkF, argsToLocals, Value.category]; done) | rfl
def Q_rm_lval (Z : State) (o : Addr) (u : Int64) (h0 : Heap) (n0 : Nat) (v : Option Value) (h : Heap) (L : List Loc) : Prop := v = some (.long u) ∧ Fr n0 L ∧ h = h0
theorem own_d44_0 : decode jdk_35_method_31_code 0 = .ok (.aload_n 0, 1) := by decide +kernel
theorem own_d44_1 : decode jdk_35_method_31_code 1 = .ok (.getfield 273, 3) := by decide +kernel
theorem own_d44_4 : decode jdk_35_method_31_code 4 = .ok (.lreturn, 1) := by decide +kernel
set_option maxRecDepth 65536 in
set_option maxHeartbeats 40000000 in
theorem rm_lval (l : Launch) (Z : State) (a0 : Array Value) (hw : ∀ d ∈ tables_1, d.before a0 Z = true) (ws : List Jvm.Cond) (o : Addr) (u : Int64) (h0 : Heap) (n0 : Nat) (Z0 : n0 ≤ h0.size) (F1 : Fld Z h0 o "java/lang/Long" "value" "J" (.long u)) :
    MetFree l (⟨"java/lang/Long", "longValue", "()J"⟩ : MethodName) (head1 (Jvm.Cond.code (⟨"java/lang/Long", "longValue", "()J"⟩ : MethodName) jdk_35_method_31_code 1 (some .long) :: ws) ({ frames := 0, cells := 0, slots := 0, locals := 0 } : Room)) (fun aa U => aa = #[(.ref o)] ∧ Z.Warmed39 U.vm ∧ U.heap = h0) (fun _ _ _ _ _ => True) (fun _ U ou U' => ∃ v L, ou = .returned v ∧ Q_rm_lval Z o u h0 n0 v U'.heap L ∧ FrameEnd U ou U' L ({ frames := 0, cells := 0, slots := 0, locals := 0 } : Room).cells ({ frames := 0, cells := 0, slots := 0, locals := 0 } : Room).slots) := by
  refine MetFree.of_bodySF (plainFor_of_name own_pn6) hisR ?_
  intro p e s m args below meth c s₁ Bd hml0 hP hK
  obtain ⟨rfl, hZ, hh⟩ := hP
  have hx := Bd.exec
  have hby := Bd.bytes
  have hml : c.maxLocals = 1 := hml0
  have hown : s.vm.findClass "java/lang/Long" = some m.cls := findClass_of_methodNamed Bd.named
  have hnm := (name_of_methodNamed Bd.named Bd.method).1
  have X0 : Stand p l e ({ frames := 0, cells := 0, slots := 0, locals := 0 } : Room) s m #[(.ref o)] below meth c s₁ [] 0 0 := Stand.of_body Bd
  have e0 : s₁.heap = h0 := by rw [← hh, Bd.state]; rfl
  have N0 := Fr.nil n0
  show own_Go p e below (fun o u L => FrameEnd s o u L ({ frames := 0, cells := 0, slots := 0, locals := 0 } : Room).cells ({ frames := 0, cells := 0, slots := 0, locals := 0 } : Room).slots) (Q_rm_lval Z o u h0 n0) (s₁.setTop (entryFrame m #[(.ref o)] 1))
  rw [own_ef_rm_lval m o]
  show own_Go _ _ _ _ _ (State.setTop _ (mkF _ 0 #[.val (.ref o)] []))
  refine own_aloadN X0 hx 1 rfl (hb hby own_d44_0) rfl rfl ?_
  refine own_getF X0 hx hZ (host := "") hown (Or.inl (own_hw hw 289 rfl)) Via.refl e0 F1 4 rfl (hb hby own_d44_1) fun T1007 X1007 e1007 => ?_
  refine own_ret X1007 (some (.long u)) (fun h => by rw [Bd.returns] at h; cases h) Bd.notSynchronized (by decide) (by decide) ?_ (fun fs hr => own_retJ X1007 hx Bd.returns (hb hby own_d44_4) hr)
  show Q_rm_lval Z o u h0 n0 _ T1007.heap _
  rw [e1007]
  exact ⟨rfl, N0, rfl⟩
theorem own_ef_rm_dval (m : MethodId) (o : Addr) : entryFrame m #[(.ref o)] 1 = mkF m 0 #[.val (.ref o)] [] := by first | (simp [entryFrame, mkF, argsToLocals, Value.category]; done) | rfl
def Q_rm_dval (Z : State) (o : Addr) (u : UInt64) (h0 : Heap) (n0 : Nat) (v : Option Value) (h : Heap) (L : List Loc) : Prop := v = some (.double u) ∧ Fr n0 L ∧ h = h0
theorem own_d41_0 : decode jdk_117_method_19_code 0 = .ok (.aload_n 0, 1) := by decide +kernel
theorem own_d41_1 : decode jdk_117_method_19_code 1 = .ok (.getfield 118, 3) := by decide +kernel
theorem own_d41_4 : decode jdk_117_method_19_code 4 = .ok (.dreturn, 1) := by decide +kernel
set_option maxRecDepth 65536 in
set_option maxHeartbeats 40000000 in
theorem rm_dval (l : Launch) (Z : State) (a0 : Array Value) (hw : ∀ d ∈ tables_1, d.before a0 Z = true) (ws : List Jvm.Cond) (o : Addr) (u : UInt64) (h0 : Heap) (n0 : Nat) (Z0 : n0 ≤ h0.size) (F1 : Fld Z h0 o "java/lang/Double" "value" "D" (.double u)) :
    MetFree l (⟨"java/lang/Double", "doubleValue", "()D"⟩ : MethodName) (head1 (Jvm.Cond.code (⟨"java/lang/Double", "doubleValue", "()D"⟩ : MethodName) jdk_117_method_19_code 1 (some .double) :: ws) ({ frames := 0, cells := 0, slots := 0, locals := 0 } : Room)) (fun aa U => aa = #[(.ref o)] ∧ Z.Warmed39 U.vm ∧ U.heap = h0) (fun _ _ _ _ _ => True) (fun _ U ou U' => ∃ v L, ou = .returned v ∧ Q_rm_dval Z o u h0 n0 v U'.heap L ∧ FrameEnd U ou U' L ({ frames := 0, cells := 0, slots := 0, locals := 0 } : Room).cells ({ frames := 0, cells := 0, slots := 0, locals := 0 } : Room).slots) := by
  refine MetFree.of_bodySF (plainFor_of_name own_pn7) hisR ?_
  intro p e s m args below meth c s₁ Bd hml0 hP hK
  obtain ⟨rfl, hZ, hh⟩ := hP
  have hx := Bd.exec
  have hby := Bd.bytes
  have hml : c.maxLocals = 1 := hml0
  have hown : s.vm.findClass "java/lang/Double" = some m.cls := findClass_of_methodNamed Bd.named
  have hnm := (name_of_methodNamed Bd.named Bd.method).1
  have X0 : Stand p l e ({ frames := 0, cells := 0, slots := 0, locals := 0 } : Room) s m #[(.ref o)] below meth c s₁ [] 0 0 := Stand.of_body Bd
  have e0 : s₁.heap = h0 := by rw [← hh, Bd.state]; rfl
  have N0 := Fr.nil n0
  show own_Go p e below (fun o u L => FrameEnd s o u L ({ frames := 0, cells := 0, slots := 0, locals := 0 } : Room).cells ({ frames := 0, cells := 0, slots := 0, locals := 0 } : Room).slots) (Q_rm_dval Z o u h0 n0) (s₁.setTop (entryFrame m #[(.ref o)] 1))
  rw [own_ef_rm_dval m o]
  show own_Go _ _ _ _ _ (State.setTop _ (mkF _ 0 #[.val (.ref o)] []))
  refine own_aloadN X0 hx 1 rfl (hb hby own_d41_0) rfl rfl ?_
  refine own_getF X0 hx hZ (host := "") hown (Or.inl (own_hw hw 104 rfl)) Via.refl e0 F1 4 rfl (hb hby own_d41_1) fun T1008 X1008 e1008 => ?_
  refine own_ret X1008 (some (.double u)) (fun h => by rw [Bd.returns] at h; cases h) Bd.notSynchronized (by decide) (by decide) ?_ (fun fs hr => own_retD X1008 hx Bd.returns (hb hby own_d41_4) hr)
  show Q_rm_dval Z o u h0 n0 _ T1008.heap _
  rw [e1008]
  exact ⟨rfl, N0, rfl⟩
theorem own_pn18 : plainName "com/example/measured_reasoner/measuredreasoner/SummaryMeanPinLaw" = true := by first | (simp [plainName, overriddenIn]; done) | decide +kernel
theorem own_ef_rm0 (m : MethodId) (i0 : Int32) (i1 : Int32) (i2 : Int32) (i3 : Int32) (i4 : Int32) : entryFrame m #[(.int i0), (.int i1), (.int i2), (.int i3), (.int i4)] maxLocals = mkF m 0 #[.val (.int i0), .val (.int i1), .val (.int i2), .val (.int i3), .val (.int i4), .unset, .unset, .unset, .unset, .unset, .unset, .unset, .unset, .unset, .unset, .unset, .unset, .unset, .unset, .unset, .unset, .unset, .unset, .unset, .unset, .unset, .unset] [] := by first | (simp [entryFrame, mkF, argsToLocals, Value.category, maxLocals]; done) | rfl
def Q_rm0 (Z : State) (i0 : Int32) (i1 : Int32) (i2 : Int32) (i3 : Int32) (i4 : Int32) (cs : Int32) (aE : Addr) (kE : ClassId) (mA : Addr) (mL : Addr) (mR : Addr) (h0 : Heap) (n0 : Nat) (v : Option Value) (h : Heap) (L : List Loc) : Prop := v = some (.int 1) ∧ Fr n0 L
theorem own_pd24 : parseMethodDescriptor "([C)V" = some ⟨[(.array .char)], none⟩ := by decide +kernel
theorem own_pd25 : parseMethodDescriptor "(C)Ljava/lang/String;" = some ⟨[.char], some (.object "java/lang/String")⟩ := by decide +kernel
theorem own_pd26 : parseMethodDescriptor "(Ljava/lang/String;D)Lcom/example/measured_reasoner/measuredreasoner/Summary;" = some ⟨[(.object "java/lang/String"), .double], some (.object "com/example/measured_reasoner/measuredreasoner/Summary")⟩ := by decide +kernel
theorem own_pd27 : parseMethodDescriptor "()Ljava/util/List;" = some ⟨[], some (.object "java/util/List")⟩ := by decide +kernel
theorem own_pd28 : parseMethodDescriptor "()Ljava/lang/String;" = some ⟨[], some (.object "java/lang/String")⟩ := by decide +kernel
theorem own_pd29 : parseMethodDescriptor "()Ljava/lang/Number;" = some ⟨[], some (.object "java/lang/Number")⟩ := by decide +kernel
theorem own_pd30 : parseMethodDescriptor "()D" = some ⟨[], some .double⟩ := by decide +kernel
theorem own_pd31 : parseMethodDescriptor "(Ljava/lang/String;J)Lcom/example/measured_reasoner/measuredreasoner/Summary;" = some ⟨[(.object "java/lang/String"), .long], some (.object "com/example/measured_reasoner/measuredreasoner/Summary")⟩ := by decide +kernel
theorem own_pd32 : parseMethodDescriptor "()J" = some ⟨[], some .long⟩ := by decide +kernel
set_option maxRecDepth 65536 in
set_option maxHeartbeats 40000000 in
theorem rm0 (l : Launch) (Z : State) (a0 : Array Value) (hw : ∀ d ∈ tables_1, d.before a0 Z = true) (ws : List Jvm.Cond) (i0 : Int32) (i1 : Int32) (i2 : Int32) (i3 : Int32) (i4 : Int32) (cs : Int32) (aE : Addr) (kE : ClassId) (mA : Addr) (mL : Addr) (mR : Addr) (h0 : Heap) (n0 : Nat) (Z0 : n0 ≤ h0.size) (S1 : Sta Z h0 "java/lang/String" "COMPACT_STRINGS" "Z" (.int cs)) (S2 : Sta Z h0 "java/util/ArrayList" "DEFAULTCAPACITY_EMPTY_ELEMENTDATA" "[Ljava/lang/Object;" (.ref aE)) (A1 : Arv Z h0 aE kE (.object "java/lang/Object") (0 : Int32) [] .null) (C1 : own_Ca Z h0 n0) (hcs : ¬ cs = 0) (M1 : own_Mi Z "java/util/ArrayList" mA) (M2 : own_Mi Z "java/util/Collections$UnmodifiableList" mL) (M3 : own_Mi Z "java/util/Collections$UnmodifiableRandomAccessList" mR) (nAL : mA ≠ mL) (nAR : mA ≠ mR) :
    MetFree l x (head1 (Jvm.Cond.code x code maxLocals ret :: ws) room_1) (fun aa U => aa = #[(.int i0), (.int i1), (.int i2), (.int i3), (.int i4)] ∧ Z.Warmed39 U.vm ∧ U.heap = h0) (fun _ _ _ _ _ => True) (fun _ U ou U' => ∃ v L, ou = .returned v ∧ Q_rm0 Z i0 i1 i2 i3 i4 cs aE kE mA mL mR h0 n0 v U'.heap L ∧ FrameEnd U ou U' L room_1.cells room_1.slots) := by
  refine MetFree.of_bodySF (plainFor_of_name own_pn18) hisR ?_
  intro p e s m args below meth c s₁ Bd hml0 hP hK
  obtain ⟨rfl, hZ, hh⟩ := hP
  have hx := Bd.exec
  have hby := Bd.bytes
  have hml : c.maxLocals = 27 := hml0
  have hown : s.vm.findClass "com/example/measured_reasoner/measuredreasoner/SummaryMeanPinLaw" = some m.cls := findClass_of_methodNamed Bd.named
  have hnm := (name_of_methodNamed Bd.named Bd.method).1
  have X0 : Stand p l e room_1 s m #[(.int i0), (.int i1), (.int i2), (.int i3), (.int i4)] below meth c s₁ [] 0 0 := Stand.of_body Bd
  have e0 : s₁.heap = h0 := by rw [← hh, Bd.state]; rfl
  have N0 := Fr.nil n0
  show own_Go p e below (fun o u L => FrameEnd s o u L room_1.cells room_1.slots) (Q_rm0 Z i0 i1 i2 i3 i4 cs aE kE mA mL mR h0 n0) (s₁.setTop (entryFrame m #[(.int i0), (.int i1), (.int i2), (.int i3), (.int i4)] maxLocals))
  rw [own_ef_rm0 m i0 i1 i2 i3 i4]
  have J12 : ∀ (f5 : Int32), (f5 = 0 ∨ f5 = 1) → own_Go p e below (fun o u L => FrameEnd s o u L room_1.cells room_1.slots) (Q_rm0 Z i0 i1 i2 i3 i4 cs aE kE mA mL mR h0 n0) (s₁.setTop (mkF m 12 #[.val (.int i0), .val (.int i1), .val (.int i2), .val (.int i3), .val (.int i4), .unset, .unset, .unset, .unset, .unset, .unset, .unset, .unset, .unset, .unset, .unset, .unset, .unset, .unset, .unset, .unset, .unset, .unset, .unset, .unset, .unset, .unset] [(.int f5)])) := by
    intro f5 hf5
    show own_Go _ _ _ _ _ (State.setTop _ (mkF _ 12 #[.val (.int i0), .val (.int i1), .val (.int i2), .val (.int i3), .val (.int i4), .unset, .unset, .unset, .unset, .unset, .unset, .unset, .unset, .unset, .unset, .unset, .unset, .unset, .unset, .unset, .unset, .unset, .unset, .unset, .unset, .unset, .unset] [(.int f5)]))
    refine own_istore X0 hx 14 rfl (hb hby at_12) #[.val (.int i0), .val (.int i1), .val (.int i2), .val (.int i3), .val (.int i4), .val (.int f5), .unset, .unset, .unset, .unset, .unset, .unset, .unset, .unset, .unset, .unset, .unset, .unset, .unset, .unset, .unset, .unset, .unset, .unset, .unset, .unset, .unset] rfl ?_
    have J26 : ∀ (f6 : Int32), (f6 = 0 ∨ f6 = 1) → own_Go p e below (fun o u L => FrameEnd s o u L room_1.cells room_1.slots) (Q_rm0 Z i0 i1 i2 i3 i4 cs aE kE mA mL mR h0 n0) (s₁.setTop (mkF m 26 #[.val (.int i0), .val (.int i1), .val (.int i2), .val (.int i3), .val (.int i4), .val (.int f5), .unset, .unset, .unset, .unset, .unset, .unset, .unset, .unset, .unset, .unset, .unset, .unset, .unset, .unset, .unset, .unset, .unset, .unset, .unset, .unset, .unset] [(.int f6)])) := by
      intro f6 hf6
      show own_Go _ _ _ _ _ (State.setTop _ (mkF _ 26 _ [(.int f6)]))
      refine own_istore X0 hx 28 rfl (hb hby at_26) #[.val (.int i0), .val (.int i1), .val (.int i2), .val (.int i3), .val (.int i4), .val (.int f5), .val (.int f6), .unset, .unset, .unset, .unset, .unset, .unset, .unset, .unset, .unset, .unset, .unset, .unset, .unset, .unset, .unset, .unset, .unset, .unset, .unset, .unset] rfl ?_
      refine own_iconst X0 hx 29 rfl (hb hby at_28) (2 : Int32) rfl ?_
      refine own_newA X0 hx hZ (own_hw hw 0 rfl) e0 31 rfl (hb hby at_29) (by decide) 2 (by decide) (by decide) (by decide) (by decide) "[C" (by decide) fun T1009 h1009 k1009 b1009 g1009 X1009 e1009 E1009 A1009 C1009 => ?_
      have ne1010 : aE ≠ b1009 := Nat.ne_of_lt (Nat.lt_of_lt_of_le A1.lt (Nat.le_of_eq g1009.symm))
      have ge1011 : n0 ≤ b1009 := Nat.le_trans Z0 (Nat.le_of_eq g1009.symm)
      have f1012 := S1.ext E1009
      have f1013 := S2.ext E1009
      have f1014 := A1.ext E1009
      have f1015 := C1.ext E1009
      have z1016 := Nat.le_trans Z0 E1009.1
      have f1017 : Arv Z h1009 b1009 k1009 .char (2 : Int32) [(.int (0 : Int32)), (.int (0 : Int32))] (.int (0 : Int32)) := (Arv.new A1009 (by decide)).pad (pad_rep [] (.int (0 : Int32)) 2)
      refine own_astore X1009 hx 33 rfl (hb hby at_31) rfl #[.val (.int i0), .val (.int i1), .val (.int i2), .val (.int i3), .val (.int i4), .val (.int f5), .val (.int f6), .val (.ref b1009), .unset, .unset, .unset, .unset, .unset, .unset, .unset, .unset, .unset, .unset, .unset, .unset, .unset, .unset, .unset, .unset, .unset, .unset, .unset] rfl ?_
      refine own_aload X1009 hx 35 rfl (hb hby at_33) rfl rfl ?_
      refine own_iconst X1009 hx 36 rfl (hb hby at_35) (0 : Int32) rfl ?_
      refine own_iloadN X1009 hx 37 rfl (hb hby at_36) rfl ?_
      refine own_sipush X1009 hx 40 rfl (hb hby at_37) (255 : Int32) rfl ?_
      refine own_iand X1009 hx 41 rfl (hb hby at_40) _ rfl ?_
      refine own_i2c X1009 hx 42 rfl (hb hby at_41) _ rfl ?_
      refine own_stC X1009 hx hZ e1009 f1017 ⟨by decide, by decide⟩ 0 rfl (Nat.le_of_ble_eq_true rfl) [(.int (nar .char ((i3 &&& (255 : Int32)).toUInt32.toUInt16.toUInt32.toInt32))), (.int (0 : Int32))] rfl 43 rfl (hb hby at_42) fun T1018 h1018 X1018 e1018 W1018 f1019 => ?_
      have f1020 := f1012.wr W1018
      have f1021 := f1013.wr W1018
      have f1022 := f1014.other W1018 ne1010
      have f1023 := C1009.wr W1018
      have z1024 := Nat.le_trans z1016 (Keep.of_wr W1018).1
      have f1025 := f1015.wr W1018 ge1011
      have N1026 := Fr.snoc X1018 N0 ge1011
      refine own_aload X1018 hx 45 rfl (hb hby at_43) rfl rfl ?_
      refine own_iconst X1018 hx 46 rfl (hb hby at_45) (1 : Int32) rfl ?_
      refine own_iloadN X1018 hx 47 rfl (hb hby at_46) rfl ?_
      refine own_bipush X1018 hx 49 rfl (hb hby at_47) (8 : Int32) rfl ?_
      refine own_iushr X1018 hx 50 rfl (hb hby at_49) _ rfl ?_
      refine own_sipush X1018 hx 53 rfl (hb hby at_50) (255 : Int32) rfl ?_
      refine own_iand X1018 hx 54 rfl (hb hby at_53) _ rfl ?_
      refine own_i2c X1018 hx 55 rfl (hb hby at_54) _ rfl ?_
      refine own_stC X1018 hx hZ e1018 f1019 ⟨by decide, by decide⟩ 1 rfl (Nat.le_of_ble_eq_true rfl) [(.int (nar .char ((i3 &&& (255 : Int32)).toUInt32.toUInt16.toUInt32.toInt32))), (.int (nar .char ((((i3.toUInt32 >>> ((8 : Int32) &&& 31).toUInt32).toInt32) &&& (255 : Int32)).toUInt32.toUInt16.toUInt32.toInt32)))] rfl 56 rfl (hb hby at_55) fun T1027 h1027 X1027 e1027 W1027 f1028 => ?_
      have f1029 := f1020.wr W1027
      have f1030 := f1021.wr W1027
      have f1031 := f1022.other W1027 ne1010
      have f1032 := f1023.wr W1027
      have z1033 := Nat.le_trans z1024 (Keep.of_wr W1027).1
      have f1034 := f1025.wr W1027 ge1011
      have N1035 := Fr.snoc X1027 N1026 ge1011
      refine own_new X1027 hx hZ hown (own_hw hw 1 rfl) (own_hw hw 2 rfl) (own_hw hw 3 rfl) e1027 59 rfl (hb hby at_56) (by decide) (by decide) fun T1036 h1036 b1036 g1036 X1036 e1036 E1036 A1036 D1036 => ?_
      have ne1037 : aE ≠ b1036 := Nat.ne_of_lt (Nat.lt_of_lt_of_le f1031.lt (Nat.le_of_eq g1036.symm))
      have ne1038 : b1009 ≠ b1036 := Nat.ne_of_lt (Nat.lt_of_lt_of_le f1032.lt (Nat.le_of_eq g1036.symm))
      have ge1039 : n0 ≤ b1036 := Nat.le_trans z1033 (Nat.le_of_eq g1036.symm)
      have f1040 := f1029.ext E1036
      have f1041 := f1030.ext E1036
      have f1042 := f1031.ext E1036
      have f1043 := f1032.ext E1036
      have f1044 := f1034.ext E1036
      have f1045 := f1028.ext E1036
      have z1046 := Nat.le_trans z1033 E1036.1
      have f1047 : Fld Z h1036 b1036 "java/lang/String" "coder" "B" (.int (0 : Int32)) := D1036 (Or.inr (own_hw hw 27 rfl)) (ty := .byte) (by decide)
      have f1048 : Fld Z h1036 b1036 "java/lang/String" "value" "[B" .null := D1036 (Or.inr (own_hw hw 29 rfl)) (ty := (.array .byte)) (by decide)
      refine own_dup X1036 hx 60 rfl (hb hby at_59) rfl ?_
      refine own_aload X1036 hx 62 rfl (hb hby at_60) rfl rfl ?_
      refine own_special X1036 hx hZ (y := (⟨"java/lang/String", "<init>", "([C)V"⟩ : MethodName)) hown rfl (own_hw hw 4 rfl) (own_hw hw 5 rfl) (a := b1036) (by decide) rfl (rm_str1 l Z a0 hw [] b1036 b1009 k1009 (nar .char ((i3 &&& (255 : Int32)).toUInt32.toUInt16.toUInt32.toInt32)) (nar .char ((((i3.toUInt32 >>> ((8 : Int32) &&& 31).toUInt32).toInt32) &&& (255 : Int32)).toUInt32.toUInt16.toUInt32.toInt32)) cs h1036 n0 z1046 A1036 f1048 f1047 ge1039 f1045 (own_ch (own_m255 _).1 (own_m255 _).2) (own_ch (own_m255 _).1 (own_m255 _).2) (Ne.symm ne1038) f1040 hcs) (own_hw hw 6 rfl) (own_hw hw 3 rfl) (by decide) e1036 (by rw [hml]; rfl) [(.ref b1009)] 1 (by decide) (Nat.le_of_eq rfl) (by decide) (by decide) (lenOf own_pd24 rfl) rfl rfl 65 rfl (hb hby at_62) fun v1049 T1049 Lc1049 X1049 hQ1049 => ?_
      obtain ⟨rfl, Nq1049, Kq1049, f1050⟩ := hQ1049
      have N1051 := Fr.app N1035 Nq1049
      have f1052 := own_staKeep f1040 Kq1049 (nsS A1036.nostat ns0)
      have f1053 := own_staKeep f1041 Kq1049 (nsS A1036.nostat ns0)
      have f1054 := f1042.keep Kq1049 (ninS ne1037 nin0)
      have f1055 := f1043.keep Kq1049
      have f1056 := f1045.keep Kq1049 (ninS ne1038 nin0)
      have f1057 := A1036.keep Kq1049
      have z1060 := Nat.le_trans z1046 Kq1049.1
      have f1061 := f1044.keep Kq1049 (allS ge1039 all0) (nsS A1036.nostat ns0)
      show own_Go _ _ _ _ _ (State.setTop _ (mkF _ 65 _ [(.ref b1036)]))
      refine own_astore X1049 hx 67 rfl (hb hby at_65) rfl #[.val (.int i0), .val (.int i1), .val (.int i2), .val (.int i3), .val (.int i4), .val (.int f5), .val (.int f6), .val (.ref b1009), .val (.ref b1036), .unset, .unset, .unset, .unset, .unset, .unset, .unset, .unset, .unset, .unset, .unset, .unset, .unset, .unset, .unset, .unset, .unset, .unset] rfl ?_
      refine own_iloadN X1049 hx 68 rfl (hb hby at_67) rfl ?_
      refine own_bipush X1049 hx 70 rfl (hb hby at_68) (16 : Int32) rfl ?_
      refine own_iushr X1049 hx 71 rfl (hb hby at_70) _ rfl ?_
      refine own_sipush X1049 hx 74 rfl (hb hby at_71) (255 : Int32) rfl ?_
      refine own_iand X1049 hx 75 rfl (hb hby at_74) _ rfl ?_
      refine own_i2c X1049 hx 76 rfl (hb hby at_75) _ rfl ?_
      refine own_callS X1049 hx hZ (y := (⟨"java/lang/String", "valueOf", "(C)Ljava/lang/String;"⟩ : MethodName)) hown (own_hw hw 30 rfl) (own_hw hw 31 rfl) (by decide) (rm_valueof l Z a0 hw [] ((((i3.toUInt32 >>> ((16 : Int32) &&& 31).toUInt32).toInt32) &&& (255 : Int32)).toUInt32.toUInt16.toUInt32.toInt32) cs T1049.heap n0 z1060 f1052 hcs (own_ch1 (own_m255 _).1 (own_m255 _).2)) (own_hw hw 32 rfl) (own_hw hw 3 rfl) (by decide) rfl (by rw [hml]; rfl) [(.int ((((i3.toUInt32 >>> ((16 : Int32) &&& 31).toUInt32).toInt32) &&& (255 : Int32)).toUInt32.toUInt16.toUInt32.toInt32))] 0 (by decide) (Nat.le_of_eq rfl) (by decide) (by decide) (lenOf own_pd25 rfl) rfl rfl 79 rfl (hb hby at_76) fun v1062 T1062 Lc1062 X1062 hQ1062 => ?_
      obtain ⟨r_1062, rfl, Nq1062, Kq1062, sd0_1062, f1063⟩ := hQ1062
      have N1064 := Fr.app N1051 Nq1062
      have ne1065 : aE ≠ r_1062 := Nat.ne_of_lt (Nat.lt_of_lt_of_le f1054.lt sd0_1062)
      have ne1066 : b1036 ≠ r_1062 := Nat.ne_of_lt (Nat.lt_of_lt_of_le f1050.lt sd0_1062)
      have ge1067 : n0 ≤ r_1062 := Nat.le_trans z1060 sd0_1062
      have f1068 := own_staKeep f1052 Kq1062 ns0
      have f1069 := own_staKeep f1053 Kq1062 ns0
      have f1070 := f1054.keep Kq1062 nin0
      have f1071 := f1050.keep Kq1062
      have z1072 := Nat.le_trans z1060 Kq1062.1
      have f1073 := f1061.keep Kq1062 all0 ns0
      show own_Go _ _ _ _ _ (State.setTop _ (mkF _ 79 _ [(.ref r_1062)]))
      refine own_astore X1062 hx 81 rfl (hb hby at_79) rfl #[.val (.int i0), .val (.int i1), .val (.int i2), .val (.int i3), .val (.int i4), .val (.int f5), .val (.int f6), .val (.ref b1009), .val (.ref b1036), .val (.ref r_1062), .unset, .unset, .unset, .unset, .unset, .unset, .unset, .unset, .unset, .unset, .unset, .unset, .unset, .unset, .unset, .unset, .unset] rfl ?_
      refine own_iloadN X1062 hx 82 rfl (hb hby at_81) rfl ?_
      refine own_i2d X1062 hx 83 rfl (hb hby at_82) _ rfl ?_
      refine own_ldcD X1062 hx hZ hown (own_hw hw 44 rfl) 86 rfl (hb hby at_83) ?_
      refine own_ddiv X1062 hx 87 rfl (hb hby at_86) (own_nn_of (own_d1n i1)) (own_d1 i1) rfl ?_
      refine own_dstore X1062 hx 89 rfl (hb hby at_87) #[.val (.int i0), .val (.int i1), .val (.int i2), .val (.int i3), .val (.int i4), .val (.int f5), .val (.int f6), .val (.ref b1009), .val (.ref b1036), .val (.ref r_1062), .val (.double (own_d1 i1)), .second, .unset, .unset, .unset, .unset, .unset, .unset, .unset, .unset, .unset, .unset, .unset, .unset, .unset, .unset, .unset] rfl ?_
      refine own_iloadN X1062 hx 90 rfl (hb hby at_89) rfl ?_
      refine own_i2d X1062 hx 91 rfl (hb hby at_90) _ rfl ?_
      refine own_ldcD X1062 hx hZ hown (own_hw hw 45 rfl) 94 rfl (hb hby at_91) ?_
      refine own_ddiv X1062 hx 95 rfl (hb hby at_94) (own_nn_of (own_d2n i2)) (own_d2 i2) rfl ?_
      refine own_dstore X1062 hx 97 rfl (hb hby at_95) #[.val (.int i0), .val (.int i1), .val (.int i2), .val (.int i3), .val (.int i4), .val (.int f5), .val (.int f6), .val (.ref b1009), .val (.ref b1036), .val (.ref r_1062), .val (.double (own_d1 i1)), .second, .val (.double (own_d2 i2)), .second, .unset, .unset, .unset, .unset, .unset, .unset, .unset, .unset, .unset, .unset, .unset, .unset, .unset] rfl ?_
      refine own_new X1062 hx hZ hown (own_hw hw 46 rfl) (own_hw hw 47 rfl) (own_hw hw 48 rfl) rfl 100 rfl (hb hby at_97) (by decide) (by decide) fun T1074 h1074 b1074 g1074 X1074 e1074 E1074 A1074 D1074 => ?_
      have ne1075 : aE ≠ b1074 := Nat.ne_of_lt (Nat.lt_of_lt_of_le f1070.lt (Nat.le_of_eq g1074.symm))
      have ne1076 : b1036 ≠ b1074 := Nat.ne_of_lt (Nat.lt_of_lt_of_le f1071.lt (Nat.le_of_eq g1074.symm))
      have ne1077 : r_1062 ≠ b1074 := Nat.ne_of_lt (Nat.lt_of_lt_of_le f1063.lt (Nat.le_of_eq g1074.symm))
      have ge1078 : n0 ≤ b1074 := Nat.le_trans z1072 (Nat.le_of_eq g1074.symm)
      have f1079 := f1068.ext E1074
      have f1080 := f1069.ext E1074
      have f1081 := f1070.ext E1074
      have f1082 := f1071.ext E1074
      have f1083 := f1073.ext E1074
      have f1084 := f1063.ext E1074
      have z1085 := Nat.le_trans z1072 E1074.1
      have f1086 : Fld Z h1074 b1074 "com/example/measured_reasoner/measuredreasoner/Summary" "fields" "Ljava/util/List;" .null := D1074 (Or.inr (own_hw hw 78 rfl)) (ty := (.object "java/util/List")) (by decide)
      refine own_dup X1074 hx 101 rfl (hb hby at_100) rfl ?_
      refine own_special X1074 hx hZ (y := (⟨"com/example/measured_reasoner/measuredreasoner/Summary", "<init>", "()V"⟩ : MethodName)) hown rfl (own_hw hw 49 rfl) (own_hw hw 50 rfl) (a := b1074) (by decide) rfl (rm_su l Z a0 hw [] b1074 aE h1074 n0 z1085 A1074 f1086 ge1078 f1080) (own_hw hw 51 rfl) (own_hw hw 48 rfl) (by decide) e1074 (by rw [hml]; rfl) [] 1 (by decide) (Nat.le_of_eq rfl) (by decide) (by decide) (lenOf own_pd0 rfl) rfl rfl 104 rfl (hb hby at_101) fun v1087 T1087 Lc1087 X1087 hQ1087 => ?_
      obtain ⟨li_1087, rfl, Nq1087, Kq1087, sd0_1087, f1088, f1089, f1090, f1091, f1092, f1093⟩ := hQ1087
      have N1094 := Fr.app N1064 Nq1087
      have ne1095 : aE ≠ li_1087 := Nat.ne_of_lt (Nat.lt_of_lt_of_le f1081.lt sd0_1087)
      have ne1096 : b1036 ≠ li_1087 := Nat.ne_of_lt (Nat.lt_of_lt_of_le f1082.lt sd0_1087)
      have ne1097 : r_1062 ≠ li_1087 := Nat.ne_of_lt (Nat.lt_of_lt_of_le f1084.lt sd0_1087)
      have ne1098 : b1074 ≠ li_1087 := Nat.ne_of_lt (Nat.lt_of_lt_of_le A1074.lt sd0_1087)
      have ge1099 : n0 ≤ li_1087 := Nat.le_trans z1085 sd0_1087
      have f1100 := own_staKeep f1079 Kq1087 (nsS A1074.nostat ns0)
      have f1101 := own_staKeep f1080 Kq1087 (nsS A1074.nostat ns0)
      have f1102 := f1081.keep Kq1087 (ninS ne1075 nin0)
      have f1103 := f1082.keep Kq1087
      have f1104 := f1084.keep Kq1087
      have f1105 := A1074.keep Kq1087
      have z1107 := Nat.le_trans z1085 Kq1087.1
      have f1108 := f1083.keep Kq1087 (allS ge1078 all0) (nsS A1074.nostat ns0)
      show own_Go _ _ _ _ _ (State.setTop _ (mkF _ 104 _ [(.ref b1074)]))
      refine own_astore X1087 hx 106 rfl (hb hby at_104) rfl #[.val (.int i0), .val (.int i1), .val (.int i2), .val (.int i3), .val (.int i4), .val (.int f5), .val (.int f6), .val (.ref b1009), .val (.ref b1036), .val (.ref r_1062), .val (.double (own_d1 i1)), .second, .val (.double (own_d2 i2)), .second, .val (.ref b1074), .unset, .unset, .unset, .unset, .unset, .unset, .unset, .unset, .unset, .unset, .unset, .unset] rfl ?_
      rcases hf5 with rfl | rfl
      ·
        show own_Go _ _ _ _ _ (State.setTop _ (mkF _ 106 #[.val (.int i0), .val (.int i1), .val (.int i2), .val (.int i3), .val (.int i4), .val (.int (0 : Int32)), .val (.int f6), .val (.ref b1009), .val (.ref b1036), .val (.ref r_1062), .val (.double (own_d1 i1)), .second, .val (.double (own_d2 i2)), .second, .val (.ref b1074), .unset, .unset, .unset, .unset, .unset, .unset, .unset, .unset, .unset, .unset, .unset, .unset] []))
        refine own_iload X1087 hx 108 rfl (hb hby at_106) rfl ?_
        refine own_ifYes X1087 hx 121 (hb hby at_108) (by decide) (by decide) rfl ?_
        refine own_aload X1087 hx 123 rfl (hb hby at_121) rfl rfl ?_
        refine own_aload X1087 hx 125 rfl (hb hby at_123) rfl rfl ?_
        refine own_dload X1087 hx 127 rfl (hb hby at_125) rfl ?_
        refine own_virtual X1087 hx hZ (y := (⟨"com/example/measured_reasoner/measuredreasoner/Summary", "mean", "(Ljava/lang/String;D)Lcom/example/measured_reasoner/measuredreasoner/Summary;"⟩ : MethodName)) (z := (⟨"com/example/measured_reasoner/measuredreasoner/Summary", "mean", "(Ljava/lang/String;D)Lcom/example/measured_reasoner/measuredreasoner/Summary;"⟩ : MethodName)) hown (own_hw hw 79 rfl) (own_hw hw 80 rfl) (own_hw hw 82 rfl) (own_hw hw 81 rfl) rfl (a := b1074) f1088 (by decide) (rm_mean0 l Z a0 hw [] b1074 b1036 (own_d1 i1) li_1087 (0 : Int32) aE kE T1087.heap n0 z1107 f1089 f1090 f1091 f1092 f1093 f1102 f1101 (Ne.symm ne1095) ge1099) (own_hw hw 83 rfl) (own_hw hw 48 rfl) (by decide) rfl (by rw [hml]; rfl) [(.ref b1036), (.double (own_d1 i1))] 0 (by decide) (Nat.le_of_eq rfl) (by decide) (by decide) (lenOf own_pd26 rfl) rfl rfl 130 rfl (hb hby at_127) fun v1109 T1109 Lc1109 X1109 hQ1109 => ?_
        obtain ⟨f_1109, r_1109, b_1109, kb_1109, rfl, Nq1109, Kq1109, sd0_1109, sd1_1109, sd2_1109, sd3_1109, sd4_1109, f1110, f1111, f1112, f1113, f1114, f1115, f1116, f1117, f1118, f1119, f1120⟩ := hQ1109
        have N1121 := Fr.app N1094 Nq1109
        have ne1122 : aE ≠ f_1109 := Nat.ne_of_lt (Nat.lt_of_lt_of_le f1102.lt sd0_1109)
        have ne1123 : b1036 ≠ f_1109 := Nat.ne_of_lt (Nat.lt_of_lt_of_le f1103.lt sd0_1109)
        have ne1124 : r_1062 ≠ f_1109 := Nat.ne_of_lt (Nat.lt_of_lt_of_le f1104.lt sd0_1109)
        have ne1125 : b1074 ≠ f_1109 := Nat.ne_of_lt (Nat.lt_of_lt_of_le f1088.lt sd0_1109)
        have ne1126 : li_1087 ≠ f_1109 := Nat.ne_of_lt (Nat.lt_of_lt_of_le f1090.lt sd0_1109)
        have ge1127 : n0 ≤ f_1109 := Nat.le_trans z1107 sd0_1109
        have ne1128 : b1036 ≠ r_1109 := own_on sd1_1109 ge1039 f1103.lt
        have ne1129 : r_1062 ≠ r_1109 := own_on sd1_1109 ge1067 f1104.lt
        have ne1130 : b1074 ≠ r_1109 := own_on sd1_1109 ge1078 f1088.lt
        have ne1131 : li_1087 ≠ r_1109 := own_on sd1_1109 ge1099 f1090.lt
        have ne1132 : aE ≠ b_1109 := Nat.ne_of_lt (Nat.lt_of_lt_of_le f1102.lt sd2_1109)
        have ne1133 : b1036 ≠ b_1109 := Nat.ne_of_lt (Nat.lt_of_lt_of_le f1103.lt sd2_1109)
        have ne1134 : r_1062 ≠ b_1109 := Nat.ne_of_lt (Nat.lt_of_lt_of_le f1104.lt sd2_1109)
        have ne1135 : b1074 ≠ b_1109 := Nat.ne_of_lt (Nat.lt_of_lt_of_le f1088.lt sd2_1109)
        have ne1136 : li_1087 ≠ b_1109 := Nat.ne_of_lt (Nat.lt_of_lt_of_le f1090.lt sd2_1109)
        have ge1137 : n0 ≤ b_1109 := Nat.le_trans z1107 sd2_1109
        have f1138 := own_staKeep f1100 Kq1109 (nsS f1090.nostat ns0)
        have f1139 := own_staKeep f1101 Kq1109 (nsS f1090.nostat ns0)
        have f1140 := f1102.keep Kq1109 (ninS ne1095 nin0)
        have f1141 := f1103.keep Kq1109
        have f1142 := f1104.keep Kq1109
        have f1143 := f1088.keep Kq1109
        have f1144 := f1089.keep Kq1109 (ninS ne1098 nin0)
        have f1145 := f1090.keep Kq1109
        have z1149 := Nat.le_trans z1107 Kq1109.1
        have f1150 := f1108.keep Kq1109 (allS ge1099 all0) (nsS f1090.nostat ns0)
        show own_Go _ _ _ _ _ (State.setTop _ (mkF _ 130 _ [(.ref b1074)]))
        refine own_astore X1109 hx 132 rfl (hb hby at_130) rfl #[.val (.int i0), .val (.int i1), .val (.int i2), .val (.int i3), .val (.int i4), .val (.int (0 : Int32)), .val (.int f6), .val (.ref b1009), .val (.ref b1036), .val (.ref r_1062), .val (.double (own_d1 i1)), .second, .val (.double (own_d2 i2)), .second, .val (.ref b1074), .val (.ref b1074), .unset, .unset, .unset, .unset, .unset, .unset, .unset, .unset, .unset, .unset, .unset] rfl ?_
        refine own_aload X1109 hx 134 rfl (hb hby at_132) rfl rfl ?_
        refine own_aload X1109 hx 136 rfl (hb hby at_134) rfl rfl ?_
        refine own_acmp X1109 hx true 141 (hb hby at_136) rfl rfl (decide_eq_true rfl) (by decide) (by decide) ?_
        rcases hf6 with rfl | rfl
        ·
          show own_Go _ _ _ _ _ (State.setTop _ (mkF _ 141 #[.val (.int i0), .val (.int i1), .val (.int i2), .val (.int i3), .val (.int i4), .val (.int (0 : Int32)), .val (.int (0 : Int32)), .val (.ref b1009), .val (.ref b1036), .val (.ref r_1062), .val (.double (own_d1 i1)), .second, .val (.double (own_d2 i2)), .second, .val (.ref b1074), .val (.ref b1074), .unset, .unset, .unset, .unset, .unset, .unset, .unset, .unset, .unset, .unset, .unset] []))
          refine own_iload X1109 hx 143 rfl (hb hby at_141) rfl ?_
          refine own_ifYes X1109 hx 156 (hb hby at_143) (by decide) (by decide) rfl ?_
          refine own_aload X1109 hx 158 rfl (hb hby at_156) rfl rfl ?_
          refine own_virtual X1109 hx hZ (y := (⟨"com/example/measured_reasoner/measuredreasoner/Summary", "fields", "()Ljava/util/List;"⟩ : MethodName)) (z := (⟨"com/example/measured_reasoner/measuredreasoner/Summary", "fields", "()Ljava/util/List;"⟩ : MethodName)) hown (own_hw hw 154 rfl) (own_hw hw 155 rfl) (own_hw hw 157 rfl) (own_hw hw 156 rfl) rfl (a := b1074) f1143 (by decide) (rm_fs l Z a0 hw [] b1074 li_1087 mA mL mR T1109.heap n0 z1149 f1144 f1115 M1 M2 M3 nAL nAR) (own_hw hw 158 rfl) (own_hw hw 48 rfl) (by decide) rfl (by rw [hml]; rfl) [] 0 (by decide) (Nat.le_of_eq rfl) (by decide) (by decide) (lenOf own_pd27 rfl) rfl rfl 161 rfl (hb hby at_158) fun v1151 T1151 Lc1151 X1151 hQ1151 => ?_
          obtain ⟨u_1151, rfl, Nq1151, Kq1151, sd0_1151, f1152, f1153, f1154⟩ := hQ1151
          have N1155 := Fr.app N1121 Nq1151
          have ne1156 : aE ≠ u_1151 := Nat.ne_of_lt (Nat.lt_of_lt_of_le f1140.lt sd0_1151)
          have ne1157 : b1036 ≠ u_1151 := Nat.ne_of_lt (Nat.lt_of_lt_of_le f1141.lt sd0_1151)
          have ne1158 : r_1062 ≠ u_1151 := Nat.ne_of_lt (Nat.lt_of_lt_of_le f1142.lt sd0_1151)
          have ne1159 : b1074 ≠ u_1151 := Nat.ne_of_lt (Nat.lt_of_lt_of_le f1143.lt sd0_1151)
          have ne1160 : li_1087 ≠ u_1151 := Nat.ne_of_lt (Nat.lt_of_lt_of_le f1115.lt sd0_1151)
          have ne1161 : f_1109 ≠ u_1151 := Nat.ne_of_lt (Nat.lt_of_lt_of_le f1110.lt sd0_1151)
          have ne1162 : r_1109 ≠ u_1151 := Nat.ne_of_lt (Nat.lt_of_lt_of_le f1113.lt sd0_1151)
          have ne1163 : b_1109 ≠ u_1151 := Nat.ne_of_lt (Nat.lt_of_lt_of_le f1119.lt sd0_1151)
          have ge1164 : n0 ≤ u_1151 := Nat.le_trans z1149 sd0_1151
          have f1165 := own_staKeep f1138 Kq1151 ns0
          have f1166 := own_staKeep f1139 Kq1151 ns0
          have f1167 := f1140.keep Kq1151 nin0
          have f1168 := f1141.keep Kq1151
          have f1169 := f1142.keep Kq1151
          have f1170 := f1143.keep Kq1151
          have f1171 := f1144.keep Kq1151 nin0
          have f1172 := f1115.keep Kq1151
          have f1173 := f1110.keep Kq1151
          have f1174 := f1111.keep Kq1151 nin0
          have f1175 := f1112.keep Kq1151 nin0
          have f1176 := f1113.keep Kq1151
          have f1177 := f1114.keep Kq1151 nin0
          have f1178 := f1116.keep Kq1151 nin0
          have f1179 := f1117.keep Kq1151 nin0
          have f1180 := f1118.keep Kq1151 nin0
          have f1181 := f1119.keep Kq1151 nin0
          have z1182 := Nat.le_trans z1149 Kq1151.1
          have f1183 := f1150.keep Kq1151 all0 ns0
          show own_Go _ _ _ _ _ (State.setTop _ (mkF _ 161 _ [(.ref u_1151)]))
          refine own_astore X1151 hx 163 rfl (hb hby at_161) rfl #[.val (.int i0), .val (.int i1), .val (.int i2), .val (.int i3), .val (.int i4), .val (.int (0 : Int32)), .val (.int (0 : Int32)), .val (.ref b1009), .val (.ref b1036), .val (.ref r_1062), .val (.double (own_d1 i1)), .second, .val (.double (own_d2 i2)), .second, .val (.ref b1074), .val (.ref b1074), .val (.ref u_1151), .unset, .unset, .unset, .unset, .unset, .unset, .unset, .unset, .unset, .unset] rfl ?_
          refine own_iconst X1151 hx 164 rfl (hb hby at_163) (1 : Int32) rfl ?_
          refine own_iload X1151 hx 166 rfl (hb hby at_164) rfl ?_
          refine own_ifYes X1151 hx 173 (hb hby at_166) (by decide) (by decide) rfl ?_
          refine own_iconst X1151 hx 174 rfl (hb hby at_173) (0 : Int32) rfl ?_
          refine own_iadd X1151 hx 175 rfl (hb hby at_174) (1 : Int32) rfl ?_
          refine own_iload X1151 hx 177 rfl (hb hby at_175) rfl ?_
          refine own_ifYes X1151 hx 184 (hb hby at_177) (by decide) (by decide) rfl ?_
          refine own_iconst X1151 hx 185 rfl (hb hby at_184) (0 : Int32) rfl ?_
          refine own_iadd X1151 hx 186 rfl (hb hby at_185) (1 : Int32) rfl ?_
          refine own_istore X1151 hx 188 rfl (hb hby at_186) #[.val (.int i0), .val (.int i1), .val (.int i2), .val (.int i3), .val (.int i4), .val (.int (0 : Int32)), .val (.int (0 : Int32)), .val (.ref b1009), .val (.ref b1036), .val (.ref r_1062), .val (.double (own_d1 i1)), .second, .val (.double (own_d2 i2)), .second, .val (.ref b1074), .val (.ref b1074), .val (.ref u_1151), .val (.int (1 : Int32)), .unset, .unset, .unset, .unset, .unset, .unset, .unset, .unset, .unset] rfl ?_
          refine own_aload X1151 hx 190 rfl (hb hby at_188) rfl rfl ?_
          refine own_iface X1151 hx hZ (C := "java/util/Collections$UnmodifiableRandomAccessList") (xi := (⟨"java/util/List", "size", "()I"⟩ : MethodName)) (y := (⟨"java/util/Collections$UnmodifiableCollection", "size", "()I"⟩ : MethodName)) hown (own_hw hw 201 rfl) (own_hw hw 202 rfl) (own_hw hw 203 rfl) rfl (own_hw hw 204 rfl) (own_hw hw 205 rfl) (own_hw hw 206 rfl) (own_hw hw 207 rfl) (own_hw hw 208 rfl) (a := u_1151) f1152 (by decide) (rm_usize l Z a0 hw [] u_1151 li_1087 (1 : Int32) T1151.heap n0 z1182 f1153 f1172 f1180) (own_hw hw 209 rfl) (own_hw hw 194 rfl) (by decide) rfl (by rw [hml]; rfl) [] 0 (by decide) (Nat.le_of_eq rfl) (by decide) (by decide) (lenOf own_pd10 rfl) rfl rfl 195 rfl (hb hby at_190) fun v1184 T1184 Lc1184 X1184 hQ1184 => ?_
          obtain ⟨rfl, Nq1184, e1184⟩ := hQ1184
          have N1185 := Fr.app N1155 Nq1184
          show own_Go _ _ _ _ _ (State.setTop _ (mkF _ 195 _ [(.int (1 : Int32))]))
          refine own_iload X1184 hx 197 rfl (hb hby at_195) rfl ?_
          refine own_icmpYes X1184 hx 202 (hb hby at_197) (by decide) (by decide) rfl ?_
          refine own_iload X1184 hx 204 rfl (hb hby at_202) rfl ?_
          refine own_ifYes X1184 hx 211 (hb hby at_204) (by decide) (by decide) rfl ?_
          refine own_iconst X1184 hx 212 rfl (hb hby at_211) (0 : Int32) rfl ?_
          refine own_istore X1184 hx 214 rfl (hb hby at_212) #[.val (.int i0), .val (.int i1), .val (.int i2), .val (.int i3), .val (.int i4), .val (.int (0 : Int32)), .val (.int (0 : Int32)), .val (.ref b1009), .val (.ref b1036), .val (.ref r_1062), .val (.double (own_d1 i1)), .second, .val (.double (own_d2 i2)), .second, .val (.ref b1074), .val (.ref b1074), .val (.ref u_1151), .val (.int (1 : Int32)), .val (.int (0 : Int32)), .unset, .unset, .unset, .unset, .unset, .unset, .unset, .unset] rfl ?_
          refine own_iload X1184 hx 216 rfl (hb hby at_214) rfl ?_
          refine own_ifYes X1184 hx 280 (hb hby at_216) (by decide) (by decide) rfl ?_
          refine own_aload X1184 hx 282 rfl (hb hby at_280) rfl rfl ?_
          refine own_iload X1184 hx 284 rfl (hb hby at_282) rfl ?_
          refine own_iface X1184 hx hZ (C := "java/util/Collections$UnmodifiableRandomAccessList") (xi := (⟨"java/util/List", "get", "(I)Ljava/lang/Object;"⟩ : MethodName)) (y := (⟨"java/util/Collections$UnmodifiableList", "get", "(I)Ljava/lang/Object;"⟩ : MethodName)) hown (own_hw hw 219 rfl) (own_hw hw 220 rfl) (own_hw hw 221 rfl) rfl (own_hw hw 222 rfl) (own_hw hw 223 rfl) (own_hw hw 224 rfl) (own_hw hw 225 rfl) (own_hw hw 208 rfl) (a := u_1151) f1152 (by decide) (rm_uget l Z a0 hw [] u_1151 (0 : Int32) li_1087 (1 : Int32) b_1109 kb_1109 [(.ref f_1109), .null, .null, .null, .null, .null, .null, .null, .null, .null] f_1109 T1151.heap n0 z1182 f1154 f1172 f1179 f1180 f1181 (by decide) (by decide) ⟨by decide, by decide⟩ rfl) (own_hw hw 226 rfl) (own_hw hw 188 rfl) (by decide) e1184 (by rw [hml]; rfl) [(.int (0 : Int32))] 0 (by decide) (Nat.le_of_eq rfl) (by decide) (by decide) (lenOf own_pd12 rfl) rfl rfl 289 rfl (hb hby at_284) fun v1186 T1186 Lc1186 X1186 hQ1186 => ?_
          obtain ⟨rfl, Nq1186, e1186⟩ := hQ1186
          have N1187 := Fr.app N1185 Nq1186
          show own_Go _ _ _ _ _ (State.setTop _ (mkF _ 289 _ [(.ref f_1109)]))
          obtain ⟨T1188, X1188, e1188, st1188⟩ := castY X1186 hx hZ hown (own_hw hw 246 rfl) e1186 (Ins.self f1173) (g := (mkF m 289 #[.val (.int i0), .val (.int i1), .val (.int i2), .val (.int i3), .val (.int i4), .val (.int (0 : Int32)), .val (.int (0 : Int32)), .val (.ref b1009), .val (.ref b1036), .val (.ref r_1062), .val (.double (own_d1 i1)), .second, .val (.double (own_d2 i2)), .second, .val (.ref b1074), .val (.ref b1074), .val (.ref u_1151), .val (.int (1 : Int32)), .val (.int (0 : Int32)), .unset, .unset, .unset, .unset, .unset, .unset, .unset, .unset] [(.ref f_1109)])) rfl rfl (hb hby at_289)
          refine own_st st1188 ?_
          show own_Go _ _ _ _ _ (State.setTop _ (mkF _ 292 #[.val (.int i0), .val (.int i1), .val (.int i2), .val (.int i3), .val (.int i4), .val (.int (0 : Int32)), .val (.int (0 : Int32)), .val (.ref b1009), .val (.ref b1036), .val (.ref r_1062), .val (.double (own_d1 i1)), .second, .val (.double (own_d2 i2)), .second, .val (.ref b1074), .val (.ref b1074), .val (.ref u_1151), .val (.int (1 : Int32)), .val (.int (0 : Int32)), .unset, .unset, .unset, .unset, .unset, .unset, .unset, .unset] [(.ref f_1109)]))
          refine own_astore X1188 hx 294 rfl (hb hby at_292) rfl #[.val (.int i0), .val (.int i1), .val (.int i2), .val (.int i3), .val (.int i4), .val (.int (0 : Int32)), .val (.int (0 : Int32)), .val (.ref b1009), .val (.ref b1036), .val (.ref r_1062), .val (.double (own_d1 i1)), .second, .val (.double (own_d2 i2)), .second, .val (.ref b1074), .val (.ref b1074), .val (.ref u_1151), .val (.int (1 : Int32)), .val (.int (0 : Int32)), .val (.ref f_1109), .unset, .unset, .unset, .unset, .unset, .unset, .unset] rfl ?_
          refine own_aload X1188 hx 296 rfl (hb hby at_294) rfl rfl ?_
          refine own_aload X1188 hx 298 rfl (hb hby at_296) rfl rfl ?_
          refine own_virtual X1188 hx hZ (y := (⟨"com/example/measured_reasoner/measuredreasoner/Summary$Field", "name", "()Ljava/lang/String;"⟩ : MethodName)) (z := (⟨"com/example/measured_reasoner/measuredreasoner/Summary$Field", "name", "()Ljava/lang/String;"⟩ : MethodName)) hown (own_hw hw 248 rfl) (own_hw hw 249 rfl) (own_hw hw 251 rfl) (own_hw hw 250 rfl) rfl (a := f_1109) f1173 (by decide) (rm_fname l Z a0 hw [] f_1109 b1036 T1151.heap n0 z1182 f1174) (own_hw hw 252 rfl) (own_hw hw 86 rfl) (by decide) e1188 (by rw [hml]; rfl) [] 1 (by decide) (Nat.le_of_eq rfl) (by decide) (by decide) (lenOf own_pd28 rfl) rfl rfl 301 rfl (hb hby at_298) fun v1189 T1189 Lc1189 X1189 hQ1189 => ?_
          obtain ⟨rfl, Nq1189, e1189⟩ := hQ1189
          have N1190 := Fr.app N1187 Nq1189
          show own_Go _ _ _ _ _ (State.setTop _ (mkF _ 301 _ [(.ref b1036), (.ref b1036)]))
          refine own_virtual X1189 hx hZ (y := (⟨"java/lang/String", "equals", "(Ljava/lang/Object;)Z"⟩ : MethodName)) (z := (⟨"java/lang/String", "equals", "(Ljava/lang/Object;)Z"⟩ : MethodName)) hown (own_hw hw 253 rfl) (own_hw hw 254 rfl) (own_hw hw 256 rfl) (own_hw hw 255 rfl) rfl (a := b1036) f1168 (by decide) (rm_eq l Z a0 hw [] b1036 T1151.heap n0 z1182 ) (own_hw hw 257 rfl) (own_hw hw 3 rfl) (by decide) e1189 (by rw [hml]; rfl) [(.ref b1036)] 0 (by decide) (Nat.le_of_eq rfl) (by decide) (by decide) (lenOf own_pd22 rfl) rfl rfl 304 rfl (hb hby at_301) fun v1191 T1191 Lc1191 X1191 hQ1191 => ?_
          obtain ⟨rfl, Nq1191, e1191⟩ := hQ1191
          have N1192 := Fr.app N1190 Nq1191
          show own_Go _ _ _ _ _ (State.setTop _ (mkF _ 304 _ [(.int (1 : Int32))]))
          refine own_ifYes X1191 hx 309 (hb hby at_304) (by decide) (by decide) rfl ?_
          refine own_aload X1191 hx 311 rfl (hb hby at_309) rfl rfl ?_
          refine own_virtual X1191 hx hZ (y := (⟨"com/example/measured_reasoner/measuredreasoner/Summary$Field", "value", "()Ljava/lang/Number;"⟩ : MethodName)) (z := (⟨"com/example/measured_reasoner/measuredreasoner/Summary$Field", "value", "()Ljava/lang/Number;"⟩ : MethodName)) hown (own_hw hw 258 rfl) (own_hw hw 259 rfl) (own_hw hw 261 rfl) (own_hw hw 260 rfl) rfl (a := f_1109) f1173 (by decide) (rm_fval l Z a0 hw [] f_1109 r_1109 T1151.heap n0 z1182 f1175) (own_hw hw 262 rfl) (own_hw hw 86 rfl) (by decide) e1191 (by rw [hml]; rfl) [] 0 (by decide) (Nat.le_of_eq rfl) (by decide) (by decide) (lenOf own_pd29 rfl) rfl rfl 314 rfl (hb hby at_311) fun v1193 T1193 Lc1193 X1193 hQ1193 => ?_
          obtain ⟨rfl, Nq1193, e1193⟩ := hQ1193
          have N1194 := Fr.app N1192 Nq1193
          show own_Go _ _ _ _ _ (State.setTop _ (mkF _ 314 _ [(.ref r_1109)]))
          refine own_astore X1193 hx 316 rfl (hb hby at_314) rfl #[.val (.int i0), .val (.int i1), .val (.int i2), .val (.int i3), .val (.int i4), .val (.int (0 : Int32)), .val (.int (0 : Int32)), .val (.ref b1009), .val (.ref b1036), .val (.ref r_1062), .val (.double (own_d1 i1)), .second, .val (.double (own_d2 i2)), .second, .val (.ref b1074), .val (.ref b1074), .val (.ref u_1151), .val (.int (1 : Int32)), .val (.int (0 : Int32)), .val (.ref f_1109), .val (.ref r_1109), .unset, .unset, .unset, .unset, .unset, .unset] rfl ?_
          refine own_aload X1193 hx 318 rfl (hb hby at_316) rfl rfl ?_
          obtain ⟨T1195, X1195, e1195, st1195⟩ := instY X1193 hx hZ hown (own_hw hw 263 rfl) e1193 (Ins.self f1176) (g := (mkF m 318 #[.val (.int i0), .val (.int i1), .val (.int i2), .val (.int i3), .val (.int i4), .val (.int (0 : Int32)), .val (.int (0 : Int32)), .val (.ref b1009), .val (.ref b1036), .val (.ref r_1062), .val (.double (own_d1 i1)), .second, .val (.double (own_d2 i2)), .second, .val (.ref b1074), .val (.ref b1074), .val (.ref u_1151), .val (.int (1 : Int32)), .val (.int (0 : Int32)), .val (.ref f_1109), .val (.ref r_1109), .unset, .unset, .unset, .unset, .unset, .unset] [(.ref r_1109)])) rfl rfl (hb hby at_318)
          refine own_st st1195 ?_
          show own_Go _ _ _ _ _ (State.setTop _ (mkF _ 321 #[.val (.int i0), .val (.int i1), .val (.int i2), .val (.int i3), .val (.int i4), .val (.int (0 : Int32)), .val (.int (0 : Int32)), .val (.ref b1009), .val (.ref b1036), .val (.ref r_1062), .val (.double (own_d1 i1)), .second, .val (.double (own_d2 i2)), .second, .val (.ref b1074), .val (.ref b1074), .val (.ref u_1151), .val (.int (1 : Int32)), .val (.int (0 : Int32)), .val (.ref f_1109), .val (.ref r_1109), .unset, .unset, .unset, .unset, .unset, .unset] [(.int (1 : Int32))]))
          refine own_ifYes X1195 hx 326 (hb hby at_321) (by decide) (by decide) rfl ?_
          refine own_aload X1195 hx 328 rfl (hb hby at_326) rfl rfl ?_
          obtain ⟨T1196, X1196, e1196, st1196⟩ := castY X1195 hx hZ hown (own_hw hw 263 rfl) e1195 (Ins.self f1176) (g := (mkF m 328 #[.val (.int i0), .val (.int i1), .val (.int i2), .val (.int i3), .val (.int i4), .val (.int (0 : Int32)), .val (.int (0 : Int32)), .val (.ref b1009), .val (.ref b1036), .val (.ref r_1062), .val (.double (own_d1 i1)), .second, .val (.double (own_d2 i2)), .second, .val (.ref b1074), .val (.ref b1074), .val (.ref u_1151), .val (.int (1 : Int32)), .val (.int (0 : Int32)), .val (.ref f_1109), .val (.ref r_1109), .unset, .unset, .unset, .unset, .unset, .unset] [(.ref r_1109)])) rfl rfl (hb hby at_328)
          refine own_st st1196 ?_
          show own_Go _ _ _ _ _ (State.setTop _ (mkF _ 331 #[.val (.int i0), .val (.int i1), .val (.int i2), .val (.int i3), .val (.int i4), .val (.int (0 : Int32)), .val (.int (0 : Int32)), .val (.ref b1009), .val (.ref b1036), .val (.ref r_1062), .val (.double (own_d1 i1)), .second, .val (.double (own_d2 i2)), .second, .val (.ref b1074), .val (.ref b1074), .val (.ref u_1151), .val (.int (1 : Int32)), .val (.int (0 : Int32)), .val (.ref f_1109), .val (.ref r_1109), .unset, .unset, .unset, .unset, .unset, .unset] [(.ref r_1109)]))
          refine own_virtual X1196 hx hZ (y := (⟨"java/lang/Double", "doubleValue", "()D"⟩ : MethodName)) (z := (⟨"java/lang/Double", "doubleValue", "()D"⟩ : MethodName)) hown (own_hw hw 264 rfl) (own_hw hw 265 rfl) (own_hw hw 267 rfl) (own_hw hw 266 rfl) rfl (a := r_1109) f1176 (by decide) (rm_dval l Z a0 hw [] r_1109 (own_d1 i1) T1151.heap n0 z1182 f1177) (own_hw hw 268 rfl) (own_hw hw 89 rfl) (by decide) e1196 (by rw [hml]; rfl) [] 0 (by decide) (Nat.le_of_eq rfl) (by decide) (by decide) (lenOf own_pd30 rfl) rfl rfl 334 rfl (hb hby at_331) fun v1197 T1197 Lc1197 X1197 hQ1197 => ?_
          obtain ⟨rfl, Nq1197, e1197⟩ := hQ1197
          have N1198 := Fr.app N1194 Nq1197
          show own_Go _ _ _ _ _ (State.setTop _ (mkF _ 334 _ [(.double (own_d1 i1))]))
          refine own_dstore X1197 hx 336 rfl (hb hby at_334) #[.val (.int i0), .val (.int i1), .val (.int i2), .val (.int i3), .val (.int i4), .val (.int (0 : Int32)), .val (.int (0 : Int32)), .val (.ref b1009), .val (.ref b1036), .val (.ref r_1062), .val (.double (own_d1 i1)), .second, .val (.double (own_d2 i2)), .second, .val (.ref b1074), .val (.ref b1074), .val (.ref u_1151), .val (.int (1 : Int32)), .val (.int (0 : Int32)), .val (.ref f_1109), .val (.ref r_1109), .val (.double (own_d1 i1)), .second, .unset, .unset, .unset, .unset] rfl ?_
          refine own_dload X1197 hx 338 rfl (hb hby at_336) rfl ?_
          refine own_dload X1197 hx 340 rfl (hb hby at_338) rfl ?_
          refine own_dcmp X1197 hx 341 rfl (hb hby at_340) (0 : Int32) (own_self (own_d1n i1)) ?_
          refine own_ifYes X1197 hx 346 (hb hby at_341) (by decide) (by decide) rfl ?_
          refine own_iload X1197 hx 348 rfl (hb hby at_346) rfl ?_
          refine own_ifYes X1197 hx 419 (hb hby at_348) (by decide) (by decide) rfl ?_
          refine own_iconst X1197 hx 420 rfl (hb hby at_419) (1 : Int32) rfl ?_
          refine own_ret X1197 (some (.int (1 : Int32))) (fun h => by rw [Bd.returns] at h; cases h) Bd.notSynchronized (by decide) (by decide) ?_ (fun fs hr => retN X1197 hx (t := .boolean) Bd.returns (by simp) (hb hby at_420) hr)
          show Q_rm0 Z i0 i1 i2 i3 i4 cs aE kE mA mL mR h0 n0 _ T1197.heap _
          rw [e1197]
          exact ⟨rfl, N1198⟩
        ·
          show own_Go _ _ _ _ _ (State.setTop _ (mkF _ 141 #[.val (.int i0), .val (.int i1), .val (.int i2), .val (.int i3), .val (.int i4), .val (.int (0 : Int32)), .val (.int (1 : Int32)), .val (.ref b1009), .val (.ref b1036), .val (.ref r_1062), .val (.double (own_d1 i1)), .second, .val (.double (own_d2 i2)), .second, .val (.ref b1074), .val (.ref b1074), .unset, .unset, .unset, .unset, .unset, .unset, .unset, .unset, .unset, .unset, .unset] []))
          refine own_iload X1109 hx 143 rfl (hb hby at_141) rfl ?_
          refine own_ifNo X1109 hx 146 rfl (hb hby at_143) (by decide) ?_
          refine own_aload X1109 hx 148 rfl (hb hby at_146) rfl rfl ?_
          refine own_aload X1109 hx 150 rfl (hb hby at_148) rfl rfl ?_
          refine own_dload X1109 hx 152 rfl (hb hby at_150) rfl ?_
          refine own_virtual X1109 hx hZ (y := (⟨"com/example/measured_reasoner/measuredreasoner/Summary", "mean", "(Ljava/lang/String;D)Lcom/example/measured_reasoner/measuredreasoner/Summary;"⟩ : MethodName)) (z := (⟨"com/example/measured_reasoner/measuredreasoner/Summary", "mean", "(Ljava/lang/String;D)Lcom/example/measured_reasoner/measuredreasoner/Summary;"⟩ : MethodName)) hown (own_hw hw 79 rfl) (own_hw hw 80 rfl) (own_hw hw 82 rfl) (own_hw hw 81 rfl) rfl (a := b1074) f1143 (by decide) (rm_mean1 l Z a0 hw [] b1074 r_1062 (own_d2 i2) li_1087 ((0 : Int32) + (1 : Int32)) b_1109 kb_1109 f_1109 T1109.heap n0 z1149 f1144 f1115 f1116 f1117 f1118 f1119 f1120 ge1137 ne1136 ge1099) (own_hw hw 83 rfl) (own_hw hw 48 rfl) (by decide) rfl (by rw [hml]; rfl) [(.ref r_1062), (.double (own_d2 i2))] 0 (by decide) (Nat.le_of_eq rfl) (by decide) (by decide) (lenOf own_pd26 rfl) rfl rfl 155 rfl (hb hby at_152) fun v1199 T1199 Lc1199 X1199 hQ1199 => ?_
          obtain ⟨f_1199, r_1199, rfl, Nq1199, Kq1199, sd0_1199, sd1_1199, f1200, f1201, f1202, f1203, f1204, f1205, f1206, f1207, f1208, f1209⟩ := hQ1199
          have N1210 := Fr.app N1121 Nq1199
          have ne1211 : aE ≠ f_1199 := Nat.ne_of_lt (Nat.lt_of_lt_of_le f1140.lt sd0_1199)
          have ne1212 : b1036 ≠ f_1199 := Nat.ne_of_lt (Nat.lt_of_lt_of_le f1141.lt sd0_1199)
          have ne1213 : r_1062 ≠ f_1199 := Nat.ne_of_lt (Nat.lt_of_lt_of_le f1142.lt sd0_1199)
          have ne1214 : b1074 ≠ f_1199 := Nat.ne_of_lt (Nat.lt_of_lt_of_le f1143.lt sd0_1199)
          have ne1215 : li_1087 ≠ f_1199 := Nat.ne_of_lt (Nat.lt_of_lt_of_le f1115.lt sd0_1199)
          have ne1216 : f_1109 ≠ f_1199 := Nat.ne_of_lt (Nat.lt_of_lt_of_le f1110.lt sd0_1199)
          have ne1217 : r_1109 ≠ f_1199 := Nat.ne_of_lt (Nat.lt_of_lt_of_le f1113.lt sd0_1199)
          have ne1218 : b_1109 ≠ f_1199 := Nat.ne_of_lt (Nat.lt_of_lt_of_le f1119.lt sd0_1199)
          have ge1219 : n0 ≤ f_1199 := Nat.le_trans z1149 sd0_1199
          have ne1220 : b1036 ≠ r_1199 := own_on sd1_1199 ge1039 f1141.lt
          have ne1221 : r_1062 ≠ r_1199 := own_on sd1_1199 ge1067 f1142.lt
          have ne1222 : b1074 ≠ r_1199 := own_on sd1_1199 ge1078 f1143.lt
          have ne1223 : li_1087 ≠ r_1199 := own_on sd1_1199 ge1099 f1115.lt
          have ne1224 : f_1109 ≠ r_1199 := own_on sd1_1199 ge1127 f1110.lt
          have ne1225 : b_1109 ≠ r_1199 := own_on sd1_1199 ge1137 f1119.lt
          have f1226 := own_staKeep f1138 Kq1199 (nsS f1115.nostat (nsS f1119.nostat ns0))
          have f1227 := own_staKeep f1139 Kq1199 (nsS f1115.nostat (nsS f1119.nostat ns0))
          have f1228 := f1140.keep Kq1199 (ninS ne1095 (ninS ne1132 nin0))
          have f1229 := f1141.keep Kq1199
          have f1230 := f1142.keep Kq1199
          have f1231 := f1143.keep Kq1199
          have f1232 := f1144.keep Kq1199 (ninS ne1098 (ninS ne1135 nin0))
          have f1233 := f1115.keep Kq1199
          have f1234 := f1110.keep Kq1199
          have f1235 := f1111.keep Kq1199 (ninS (Ne.symm ne1126) (ninS sd3_1109 nin0))
          have f1236 := f1112.keep Kq1199 (ninS (Ne.symm ne1126) (ninS sd3_1109 nin0))
          have f1237 := f1113.keep Kq1199
          have f1238 := f1114.keep Kq1199 (ninS (Ne.symm ne1131) (ninS sd4_1109 nin0))
          have z1243 := Nat.le_trans z1149 Kq1199.1
          have f1244 := f1150.keep Kq1199 (allS ge1099 (allS ge1137 all0)) (nsS f1115.nostat (nsS f1119.nostat ns0))
          show own_Go _ _ _ _ _ (State.setTop _ (mkF _ 155 _ [(.ref b1074)]))
          refine own_pop X1199 hx 156 rfl (hb hby at_155) rfl ?_
          refine own_aload X1199 hx 158 rfl (hb hby at_156) rfl rfl ?_
          refine own_virtual X1199 hx hZ (y := (⟨"com/example/measured_reasoner/measuredreasoner/Summary", "fields", "()Ljava/util/List;"⟩ : MethodName)) (z := (⟨"com/example/measured_reasoner/measuredreasoner/Summary", "fields", "()Ljava/util/List;"⟩ : MethodName)) hown (own_hw hw 154 rfl) (own_hw hw 155 rfl) (own_hw hw 157 rfl) (own_hw hw 156 rfl) rfl (a := b1074) f1231 (by decide) (rm_fs l Z a0 hw [] b1074 li_1087 mA mL mR T1199.heap n0 z1243 f1232 f1205 M1 M2 M3 nAL nAR) (own_hw hw 158 rfl) (own_hw hw 48 rfl) (by decide) rfl (by rw [hml]; rfl) [] 0 (by decide) (Nat.le_of_eq rfl) (by decide) (by decide) (lenOf own_pd27 rfl) rfl rfl 161 rfl (hb hby at_158) fun v1245 T1245 Lc1245 X1245 hQ1245 => ?_
          obtain ⟨u_1245, rfl, Nq1245, Kq1245, sd0_1245, f1246, f1247, f1248⟩ := hQ1245
          have N1249 := Fr.app N1210 Nq1245
          have ne1250 : aE ≠ u_1245 := Nat.ne_of_lt (Nat.lt_of_lt_of_le f1228.lt sd0_1245)
          have ne1251 : b1036 ≠ u_1245 := Nat.ne_of_lt (Nat.lt_of_lt_of_le f1229.lt sd0_1245)
          have ne1252 : r_1062 ≠ u_1245 := Nat.ne_of_lt (Nat.lt_of_lt_of_le f1230.lt sd0_1245)
          have ne1253 : b1074 ≠ u_1245 := Nat.ne_of_lt (Nat.lt_of_lt_of_le f1231.lt sd0_1245)
          have ne1254 : li_1087 ≠ u_1245 := Nat.ne_of_lt (Nat.lt_of_lt_of_le f1205.lt sd0_1245)
          have ne1255 : f_1109 ≠ u_1245 := Nat.ne_of_lt (Nat.lt_of_lt_of_le f1234.lt sd0_1245)
          have ne1256 : r_1109 ≠ u_1245 := Nat.ne_of_lt (Nat.lt_of_lt_of_le f1237.lt sd0_1245)
          have ne1257 : f_1199 ≠ u_1245 := Nat.ne_of_lt (Nat.lt_of_lt_of_le f1200.lt sd0_1245)
          have ne1258 : r_1199 ≠ u_1245 := Nat.ne_of_lt (Nat.lt_of_lt_of_le f1203.lt sd0_1245)
          have ne1259 : b_1109 ≠ u_1245 := Nat.ne_of_lt (Nat.lt_of_lt_of_le f1209.lt sd0_1245)
          have ge1260 : n0 ≤ u_1245 := Nat.le_trans z1243 sd0_1245
          have f1261 := own_staKeep f1226 Kq1245 ns0
          have f1262 := own_staKeep f1227 Kq1245 ns0
          have f1263 := f1228.keep Kq1245 nin0
          have f1264 := f1229.keep Kq1245
          have f1265 := f1230.keep Kq1245
          have f1266 := f1231.keep Kq1245
          have f1267 := f1232.keep Kq1245 nin0
          have f1268 := f1205.keep Kq1245
          have f1269 := f1234.keep Kq1245
          have f1270 := f1235.keep Kq1245 nin0
          have f1271 := f1236.keep Kq1245 nin0
          have f1272 := f1237.keep Kq1245
          have f1273 := f1238.keep Kq1245 nin0
          have f1274 := f1200.keep Kq1245
          have f1275 := f1201.keep Kq1245 nin0
          have f1276 := f1202.keep Kq1245 nin0
          have f1277 := f1203.keep Kq1245
          have f1278 := f1204.keep Kq1245 nin0
          have f1279 := f1206.keep Kq1245 nin0
          have f1280 := f1207.keep Kq1245 nin0
          have f1281 := f1208.keep Kq1245 nin0
          have f1282 := f1209.keep Kq1245 nin0
          have z1283 := Nat.le_trans z1243 Kq1245.1
          have f1284 := f1244.keep Kq1245 all0 ns0
          show own_Go _ _ _ _ _ (State.setTop _ (mkF _ 161 _ [(.ref u_1245)]))
          refine own_astore X1245 hx 163 rfl (hb hby at_161) rfl #[.val (.int i0), .val (.int i1), .val (.int i2), .val (.int i3), .val (.int i4), .val (.int (0 : Int32)), .val (.int (1 : Int32)), .val (.ref b1009), .val (.ref b1036), .val (.ref r_1062), .val (.double (own_d1 i1)), .second, .val (.double (own_d2 i2)), .second, .val (.ref b1074), .val (.ref b1074), .val (.ref u_1245), .unset, .unset, .unset, .unset, .unset, .unset, .unset, .unset, .unset, .unset] rfl ?_
          refine own_iconst X1245 hx 164 rfl (hb hby at_163) (1 : Int32) rfl ?_
          refine own_iload X1245 hx 166 rfl (hb hby at_164) rfl ?_
          refine own_ifYes X1245 hx 173 (hb hby at_166) (by decide) (by decide) rfl ?_
          refine own_iconst X1245 hx 174 rfl (hb hby at_173) (0 : Int32) rfl ?_
          refine own_iadd X1245 hx 175 rfl (hb hby at_174) (1 : Int32) rfl ?_
          refine own_iload X1245 hx 177 rfl (hb hby at_175) rfl ?_
          refine own_ifNo X1245 hx 180 rfl (hb hby at_177) (by decide) ?_
          refine own_iconst X1245 hx 181 rfl (hb hby at_180) (1 : Int32) rfl ?_
          refine own_goto X1245 hx 185 (hb hby at_181) (by decide) rfl ?_
          refine own_iadd X1245 hx 186 rfl (hb hby at_185) (2 : Int32) rfl ?_
          refine own_istore X1245 hx 188 rfl (hb hby at_186) #[.val (.int i0), .val (.int i1), .val (.int i2), .val (.int i3), .val (.int i4), .val (.int (0 : Int32)), .val (.int (1 : Int32)), .val (.ref b1009), .val (.ref b1036), .val (.ref r_1062), .val (.double (own_d1 i1)), .second, .val (.double (own_d2 i2)), .second, .val (.ref b1074), .val (.ref b1074), .val (.ref u_1245), .val (.int (2 : Int32)), .unset, .unset, .unset, .unset, .unset, .unset, .unset, .unset, .unset] rfl ?_
          refine own_aload X1245 hx 190 rfl (hb hby at_188) rfl rfl ?_
          refine own_iface X1245 hx hZ (C := "java/util/Collections$UnmodifiableRandomAccessList") (xi := (⟨"java/util/List", "size", "()I"⟩ : MethodName)) (y := (⟨"java/util/Collections$UnmodifiableCollection", "size", "()I"⟩ : MethodName)) hown (own_hw hw 201 rfl) (own_hw hw 202 rfl) (own_hw hw 203 rfl) rfl (own_hw hw 204 rfl) (own_hw hw 205 rfl) (own_hw hw 206 rfl) (own_hw hw 207 rfl) (own_hw hw 208 rfl) (a := u_1245) f1246 (by decide) (rm_usize l Z a0 hw [] u_1245 li_1087 (2 : Int32) T1245.heap n0 z1283 f1247 f1268 f1281) (own_hw hw 209 rfl) (own_hw hw 194 rfl) (by decide) rfl (by rw [hml]; rfl) [] 0 (by decide) (Nat.le_of_eq rfl) (by decide) (by decide) (lenOf own_pd10 rfl) rfl rfl 195 rfl (hb hby at_190) fun v1285 T1285 Lc1285 X1285 hQ1285 => ?_
          obtain ⟨rfl, Nq1285, e1285⟩ := hQ1285
          have N1286 := Fr.app N1249 Nq1285
          show own_Go _ _ _ _ _ (State.setTop _ (mkF _ 195 _ [(.int (2 : Int32))]))
          refine own_iload X1285 hx 197 rfl (hb hby at_195) rfl ?_
          refine own_icmpYes X1285 hx 202 (hb hby at_197) (by decide) (by decide) rfl ?_
          refine own_iload X1285 hx 204 rfl (hb hby at_202) rfl ?_
          refine own_ifYes X1285 hx 211 (hb hby at_204) (by decide) (by decide) rfl ?_
          refine own_iconst X1285 hx 212 rfl (hb hby at_211) (0 : Int32) rfl ?_
          refine own_istore X1285 hx 214 rfl (hb hby at_212) #[.val (.int i0), .val (.int i1), .val (.int i2), .val (.int i3), .val (.int i4), .val (.int (0 : Int32)), .val (.int (1 : Int32)), .val (.ref b1009), .val (.ref b1036), .val (.ref r_1062), .val (.double (own_d1 i1)), .second, .val (.double (own_d2 i2)), .second, .val (.ref b1074), .val (.ref b1074), .val (.ref u_1245), .val (.int (2 : Int32)), .val (.int (0 : Int32)), .unset, .unset, .unset, .unset, .unset, .unset, .unset, .unset] rfl ?_
          refine own_iload X1285 hx 216 rfl (hb hby at_214) rfl ?_
          refine own_ifYes X1285 hx 280 (hb hby at_216) (by decide) (by decide) rfl ?_
          refine own_aload X1285 hx 282 rfl (hb hby at_280) rfl rfl ?_
          refine own_iload X1285 hx 284 rfl (hb hby at_282) rfl ?_
          refine own_iface X1285 hx hZ (C := "java/util/Collections$UnmodifiableRandomAccessList") (xi := (⟨"java/util/List", "get", "(I)Ljava/lang/Object;"⟩ : MethodName)) (y := (⟨"java/util/Collections$UnmodifiableList", "get", "(I)Ljava/lang/Object;"⟩ : MethodName)) hown (own_hw hw 219 rfl) (own_hw hw 220 rfl) (own_hw hw 221 rfl) rfl (own_hw hw 222 rfl) (own_hw hw 223 rfl) (own_hw hw 224 rfl) (own_hw hw 225 rfl) (own_hw hw 208 rfl) (a := u_1245) f1246 (by decide) (rm_uget l Z a0 hw [] u_1245 (0 : Int32) li_1087 (2 : Int32) b_1109 kb_1109 [(.ref f_1109), (.ref f_1199), .null, .null, .null, .null, .null, .null, .null, .null] f_1109 T1245.heap n0 z1283 f1248 f1268 f1280 f1281 f1282 (by decide) (by decide) ⟨by decide, by decide⟩ rfl) (own_hw hw 226 rfl) (own_hw hw 188 rfl) (by decide) e1285 (by rw [hml]; rfl) [(.int (0 : Int32))] 0 (by decide) (Nat.le_of_eq rfl) (by decide) (by decide) (lenOf own_pd12 rfl) rfl rfl 289 rfl (hb hby at_284) fun v1287 T1287 Lc1287 X1287 hQ1287 => ?_
          obtain ⟨rfl, Nq1287, e1287⟩ := hQ1287
          have N1288 := Fr.app N1286 Nq1287
          show own_Go _ _ _ _ _ (State.setTop _ (mkF _ 289 _ [(.ref f_1109)]))
          obtain ⟨T1289, X1289, e1289, st1289⟩ := castY X1287 hx hZ hown (own_hw hw 246 rfl) e1287 (Ins.self f1269) (g := (mkF m 289 #[.val (.int i0), .val (.int i1), .val (.int i2), .val (.int i3), .val (.int i4), .val (.int (0 : Int32)), .val (.int (1 : Int32)), .val (.ref b1009), .val (.ref b1036), .val (.ref r_1062), .val (.double (own_d1 i1)), .second, .val (.double (own_d2 i2)), .second, .val (.ref b1074), .val (.ref b1074), .val (.ref u_1245), .val (.int (2 : Int32)), .val (.int (0 : Int32)), .unset, .unset, .unset, .unset, .unset, .unset, .unset, .unset] [(.ref f_1109)])) rfl rfl (hb hby at_289)
          refine own_st st1289 ?_
          show own_Go _ _ _ _ _ (State.setTop _ (mkF _ 292 #[.val (.int i0), .val (.int i1), .val (.int i2), .val (.int i3), .val (.int i4), .val (.int (0 : Int32)), .val (.int (1 : Int32)), .val (.ref b1009), .val (.ref b1036), .val (.ref r_1062), .val (.double (own_d1 i1)), .second, .val (.double (own_d2 i2)), .second, .val (.ref b1074), .val (.ref b1074), .val (.ref u_1245), .val (.int (2 : Int32)), .val (.int (0 : Int32)), .unset, .unset, .unset, .unset, .unset, .unset, .unset, .unset] [(.ref f_1109)]))
          refine own_astore X1289 hx 294 rfl (hb hby at_292) rfl #[.val (.int i0), .val (.int i1), .val (.int i2), .val (.int i3), .val (.int i4), .val (.int (0 : Int32)), .val (.int (1 : Int32)), .val (.ref b1009), .val (.ref b1036), .val (.ref r_1062), .val (.double (own_d1 i1)), .second, .val (.double (own_d2 i2)), .second, .val (.ref b1074), .val (.ref b1074), .val (.ref u_1245), .val (.int (2 : Int32)), .val (.int (0 : Int32)), .val (.ref f_1109), .unset, .unset, .unset, .unset, .unset, .unset, .unset] rfl ?_
          refine own_aload X1289 hx 296 rfl (hb hby at_294) rfl rfl ?_
          refine own_aload X1289 hx 298 rfl (hb hby at_296) rfl rfl ?_
          refine own_virtual X1289 hx hZ (y := (⟨"com/example/measured_reasoner/measuredreasoner/Summary$Field", "name", "()Ljava/lang/String;"⟩ : MethodName)) (z := (⟨"com/example/measured_reasoner/measuredreasoner/Summary$Field", "name", "()Ljava/lang/String;"⟩ : MethodName)) hown (own_hw hw 248 rfl) (own_hw hw 249 rfl) (own_hw hw 251 rfl) (own_hw hw 250 rfl) rfl (a := f_1109) f1269 (by decide) (rm_fname l Z a0 hw [] f_1109 b1036 T1245.heap n0 z1283 f1270) (own_hw hw 252 rfl) (own_hw hw 86 rfl) (by decide) e1289 (by rw [hml]; rfl) [] 1 (by decide) (Nat.le_of_eq rfl) (by decide) (by decide) (lenOf own_pd28 rfl) rfl rfl 301 rfl (hb hby at_298) fun v1290 T1290 Lc1290 X1290 hQ1290 => ?_
          obtain ⟨rfl, Nq1290, e1290⟩ := hQ1290
          have N1291 := Fr.app N1288 Nq1290
          show own_Go _ _ _ _ _ (State.setTop _ (mkF _ 301 _ [(.ref b1036), (.ref b1036)]))
          refine own_virtual X1290 hx hZ (y := (⟨"java/lang/String", "equals", "(Ljava/lang/Object;)Z"⟩ : MethodName)) (z := (⟨"java/lang/String", "equals", "(Ljava/lang/Object;)Z"⟩ : MethodName)) hown (own_hw hw 253 rfl) (own_hw hw 254 rfl) (own_hw hw 256 rfl) (own_hw hw 255 rfl) rfl (a := b1036) f1264 (by decide) (rm_eq l Z a0 hw [] b1036 T1245.heap n0 z1283 ) (own_hw hw 257 rfl) (own_hw hw 3 rfl) (by decide) e1290 (by rw [hml]; rfl) [(.ref b1036)] 0 (by decide) (Nat.le_of_eq rfl) (by decide) (by decide) (lenOf own_pd22 rfl) rfl rfl 304 rfl (hb hby at_301) fun v1292 T1292 Lc1292 X1292 hQ1292 => ?_
          obtain ⟨rfl, Nq1292, e1292⟩ := hQ1292
          have N1293 := Fr.app N1291 Nq1292
          show own_Go _ _ _ _ _ (State.setTop _ (mkF _ 304 _ [(.int (1 : Int32))]))
          refine own_ifYes X1292 hx 309 (hb hby at_304) (by decide) (by decide) rfl ?_
          refine own_aload X1292 hx 311 rfl (hb hby at_309) rfl rfl ?_
          refine own_virtual X1292 hx hZ (y := (⟨"com/example/measured_reasoner/measuredreasoner/Summary$Field", "value", "()Ljava/lang/Number;"⟩ : MethodName)) (z := (⟨"com/example/measured_reasoner/measuredreasoner/Summary$Field", "value", "()Ljava/lang/Number;"⟩ : MethodName)) hown (own_hw hw 258 rfl) (own_hw hw 259 rfl) (own_hw hw 261 rfl) (own_hw hw 260 rfl) rfl (a := f_1109) f1269 (by decide) (rm_fval l Z a0 hw [] f_1109 r_1109 T1245.heap n0 z1283 f1271) (own_hw hw 262 rfl) (own_hw hw 86 rfl) (by decide) e1292 (by rw [hml]; rfl) [] 0 (by decide) (Nat.le_of_eq rfl) (by decide) (by decide) (lenOf own_pd29 rfl) rfl rfl 314 rfl (hb hby at_311) fun v1294 T1294 Lc1294 X1294 hQ1294 => ?_
          obtain ⟨rfl, Nq1294, e1294⟩ := hQ1294
          have N1295 := Fr.app N1293 Nq1294
          show own_Go _ _ _ _ _ (State.setTop _ (mkF _ 314 _ [(.ref r_1109)]))
          refine own_astore X1294 hx 316 rfl (hb hby at_314) rfl #[.val (.int i0), .val (.int i1), .val (.int i2), .val (.int i3), .val (.int i4), .val (.int (0 : Int32)), .val (.int (1 : Int32)), .val (.ref b1009), .val (.ref b1036), .val (.ref r_1062), .val (.double (own_d1 i1)), .second, .val (.double (own_d2 i2)), .second, .val (.ref b1074), .val (.ref b1074), .val (.ref u_1245), .val (.int (2 : Int32)), .val (.int (0 : Int32)), .val (.ref f_1109), .val (.ref r_1109), .unset, .unset, .unset, .unset, .unset, .unset] rfl ?_
          refine own_aload X1294 hx 318 rfl (hb hby at_316) rfl rfl ?_
          obtain ⟨T1296, X1296, e1296, st1296⟩ := instY X1294 hx hZ hown (own_hw hw 263 rfl) e1294 (Ins.self f1272) (g := (mkF m 318 #[.val (.int i0), .val (.int i1), .val (.int i2), .val (.int i3), .val (.int i4), .val (.int (0 : Int32)), .val (.int (1 : Int32)), .val (.ref b1009), .val (.ref b1036), .val (.ref r_1062), .val (.double (own_d1 i1)), .second, .val (.double (own_d2 i2)), .second, .val (.ref b1074), .val (.ref b1074), .val (.ref u_1245), .val (.int (2 : Int32)), .val (.int (0 : Int32)), .val (.ref f_1109), .val (.ref r_1109), .unset, .unset, .unset, .unset, .unset, .unset] [(.ref r_1109)])) rfl rfl (hb hby at_318)
          refine own_st st1296 ?_
          show own_Go _ _ _ _ _ (State.setTop _ (mkF _ 321 #[.val (.int i0), .val (.int i1), .val (.int i2), .val (.int i3), .val (.int i4), .val (.int (0 : Int32)), .val (.int (1 : Int32)), .val (.ref b1009), .val (.ref b1036), .val (.ref r_1062), .val (.double (own_d1 i1)), .second, .val (.double (own_d2 i2)), .second, .val (.ref b1074), .val (.ref b1074), .val (.ref u_1245), .val (.int (2 : Int32)), .val (.int (0 : Int32)), .val (.ref f_1109), .val (.ref r_1109), .unset, .unset, .unset, .unset, .unset, .unset] [(.int (1 : Int32))]))
          refine own_ifYes X1296 hx 326 (hb hby at_321) (by decide) (by decide) rfl ?_
          refine own_aload X1296 hx 328 rfl (hb hby at_326) rfl rfl ?_
          obtain ⟨T1297, X1297, e1297, st1297⟩ := castY X1296 hx hZ hown (own_hw hw 263 rfl) e1296 (Ins.self f1272) (g := (mkF m 328 #[.val (.int i0), .val (.int i1), .val (.int i2), .val (.int i3), .val (.int i4), .val (.int (0 : Int32)), .val (.int (1 : Int32)), .val (.ref b1009), .val (.ref b1036), .val (.ref r_1062), .val (.double (own_d1 i1)), .second, .val (.double (own_d2 i2)), .second, .val (.ref b1074), .val (.ref b1074), .val (.ref u_1245), .val (.int (2 : Int32)), .val (.int (0 : Int32)), .val (.ref f_1109), .val (.ref r_1109), .unset, .unset, .unset, .unset, .unset, .unset] [(.ref r_1109)])) rfl rfl (hb hby at_328)
          refine own_st st1297 ?_
          show own_Go _ _ _ _ _ (State.setTop _ (mkF _ 331 #[.val (.int i0), .val (.int i1), .val (.int i2), .val (.int i3), .val (.int i4), .val (.int (0 : Int32)), .val (.int (1 : Int32)), .val (.ref b1009), .val (.ref b1036), .val (.ref r_1062), .val (.double (own_d1 i1)), .second, .val (.double (own_d2 i2)), .second, .val (.ref b1074), .val (.ref b1074), .val (.ref u_1245), .val (.int (2 : Int32)), .val (.int (0 : Int32)), .val (.ref f_1109), .val (.ref r_1109), .unset, .unset, .unset, .unset, .unset, .unset] [(.ref r_1109)]))
          refine own_virtual X1297 hx hZ (y := (⟨"java/lang/Double", "doubleValue", "()D"⟩ : MethodName)) (z := (⟨"java/lang/Double", "doubleValue", "()D"⟩ : MethodName)) hown (own_hw hw 264 rfl) (own_hw hw 265 rfl) (own_hw hw 267 rfl) (own_hw hw 266 rfl) rfl (a := r_1109) f1272 (by decide) (rm_dval l Z a0 hw [] r_1109 (own_d1 i1) T1245.heap n0 z1283 f1273) (own_hw hw 268 rfl) (own_hw hw 89 rfl) (by decide) e1297 (by rw [hml]; rfl) [] 0 (by decide) (Nat.le_of_eq rfl) (by decide) (by decide) (lenOf own_pd30 rfl) rfl rfl 334 rfl (hb hby at_331) fun v1298 T1298 Lc1298 X1298 hQ1298 => ?_
          obtain ⟨rfl, Nq1298, e1298⟩ := hQ1298
          have N1299 := Fr.app N1295 Nq1298
          show own_Go _ _ _ _ _ (State.setTop _ (mkF _ 334 _ [(.double (own_d1 i1))]))
          refine own_dstore X1298 hx 336 rfl (hb hby at_334) #[.val (.int i0), .val (.int i1), .val (.int i2), .val (.int i3), .val (.int i4), .val (.int (0 : Int32)), .val (.int (1 : Int32)), .val (.ref b1009), .val (.ref b1036), .val (.ref r_1062), .val (.double (own_d1 i1)), .second, .val (.double (own_d2 i2)), .second, .val (.ref b1074), .val (.ref b1074), .val (.ref u_1245), .val (.int (2 : Int32)), .val (.int (0 : Int32)), .val (.ref f_1109), .val (.ref r_1109), .val (.double (own_d1 i1)), .second, .unset, .unset, .unset, .unset] rfl ?_
          refine own_dload X1298 hx 338 rfl (hb hby at_336) rfl ?_
          refine own_dload X1298 hx 340 rfl (hb hby at_338) rfl ?_
          refine own_dcmp X1298 hx 341 rfl (hb hby at_340) (0 : Int32) (own_self (own_d1n i1)) ?_
          refine own_ifYes X1298 hx 346 (hb hby at_341) (by decide) (by decide) rfl ?_
          refine own_iload X1298 hx 348 rfl (hb hby at_346) rfl ?_
          refine own_ifNo X1298 hx 351 rfl (hb hby at_348) (by decide) ?_
          refine own_aload X1298 hx 353 rfl (hb hby at_351) rfl rfl ?_
          refine own_iload X1298 hx 355 rfl (hb hby at_353) rfl ?_
          refine own_iconst X1298 hx 356 rfl (hb hby at_355) (1 : Int32) rfl ?_
          refine own_iadd X1298 hx 357 rfl (hb hby at_356) (1 : Int32) rfl ?_
          refine own_iface X1298 hx hZ (C := "java/util/Collections$UnmodifiableRandomAccessList") (xi := (⟨"java/util/List", "get", "(I)Ljava/lang/Object;"⟩ : MethodName)) (y := (⟨"java/util/Collections$UnmodifiableList", "get", "(I)Ljava/lang/Object;"⟩ : MethodName)) hown (own_hw hw 219 rfl) (own_hw hw 220 rfl) (own_hw hw 221 rfl) rfl (own_hw hw 222 rfl) (own_hw hw 223 rfl) (own_hw hw 224 rfl) (own_hw hw 225 rfl) (own_hw hw 208 rfl) (a := u_1245) f1246 (by decide) (rm_uget l Z a0 hw [] u_1245 (1 : Int32) li_1087 (2 : Int32) b_1109 kb_1109 [(.ref f_1109), (.ref f_1199), .null, .null, .null, .null, .null, .null, .null, .null] f_1199 T1245.heap n0 z1283 f1248 f1268 f1280 f1281 f1282 (by decide) (by decide) ⟨by decide, by decide⟩ rfl) (own_hw hw 226 rfl) (own_hw hw 188 rfl) (by decide) e1298 (by rw [hml]; rfl) [(.int (1 : Int32))] 0 (by decide) (Nat.le_of_eq rfl) (by decide) (by decide) (lenOf own_pd12 rfl) rfl rfl 362 rfl (hb hby at_357) fun v1300 T1300 Lc1300 X1300 hQ1300 => ?_
          obtain ⟨rfl, Nq1300, e1300⟩ := hQ1300
          have N1301 := Fr.app N1299 Nq1300
          show own_Go _ _ _ _ _ (State.setTop _ (mkF _ 362 _ [(.ref f_1199)]))
          obtain ⟨T1302, X1302, e1302, st1302⟩ := castY X1300 hx hZ hown (own_hw hw 246 rfl) e1300 (Ins.self f1274) (g := (mkF m 362 #[.val (.int i0), .val (.int i1), .val (.int i2), .val (.int i3), .val (.int i4), .val (.int (0 : Int32)), .val (.int (1 : Int32)), .val (.ref b1009), .val (.ref b1036), .val (.ref r_1062), .val (.double (own_d1 i1)), .second, .val (.double (own_d2 i2)), .second, .val (.ref b1074), .val (.ref b1074), .val (.ref u_1245), .val (.int (2 : Int32)), .val (.int (0 : Int32)), .val (.ref f_1109), .val (.ref r_1109), .val (.double (own_d1 i1)), .second, .unset, .unset, .unset, .unset] [(.ref f_1199)])) rfl rfl (hb hby at_362)
          refine own_st st1302 ?_
          show own_Go _ _ _ _ _ (State.setTop _ (mkF _ 365 #[.val (.int i0), .val (.int i1), .val (.int i2), .val (.int i3), .val (.int i4), .val (.int (0 : Int32)), .val (.int (1 : Int32)), .val (.ref b1009), .val (.ref b1036), .val (.ref r_1062), .val (.double (own_d1 i1)), .second, .val (.double (own_d2 i2)), .second, .val (.ref b1074), .val (.ref b1074), .val (.ref u_1245), .val (.int (2 : Int32)), .val (.int (0 : Int32)), .val (.ref f_1109), .val (.ref r_1109), .val (.double (own_d1 i1)), .second, .unset, .unset, .unset, .unset] [(.ref f_1199)]))
          refine own_astore X1302 hx 367 rfl (hb hby at_365) rfl #[.val (.int i0), .val (.int i1), .val (.int i2), .val (.int i3), .val (.int i4), .val (.int (0 : Int32)), .val (.int (1 : Int32)), .val (.ref b1009), .val (.ref b1036), .val (.ref r_1062), .val (.double (own_d1 i1)), .second, .val (.double (own_d2 i2)), .second, .val (.ref b1074), .val (.ref b1074), .val (.ref u_1245), .val (.int (2 : Int32)), .val (.int (0 : Int32)), .val (.ref f_1109), .val (.ref r_1109), .val (.double (own_d1 i1)), .second, .val (.ref f_1199), .unset, .unset, .unset] rfl ?_
          refine own_aload X1302 hx 369 rfl (hb hby at_367) rfl rfl ?_
          refine own_aload X1302 hx 371 rfl (hb hby at_369) rfl rfl ?_
          refine own_virtual X1302 hx hZ (y := (⟨"com/example/measured_reasoner/measuredreasoner/Summary$Field", "name", "()Ljava/lang/String;"⟩ : MethodName)) (z := (⟨"com/example/measured_reasoner/measuredreasoner/Summary$Field", "name", "()Ljava/lang/String;"⟩ : MethodName)) hown (own_hw hw 248 rfl) (own_hw hw 249 rfl) (own_hw hw 251 rfl) (own_hw hw 250 rfl) rfl (a := f_1199) f1274 (by decide) (rm_fname l Z a0 hw [] f_1199 r_1062 T1245.heap n0 z1283 f1275) (own_hw hw 252 rfl) (own_hw hw 86 rfl) (by decide) e1302 (by rw [hml]; rfl) [] 1 (by decide) (Nat.le_of_eq rfl) (by decide) (by decide) (lenOf own_pd28 rfl) rfl rfl 374 rfl (hb hby at_371) fun v1303 T1303 Lc1303 X1303 hQ1303 => ?_
          obtain ⟨rfl, Nq1303, e1303⟩ := hQ1303
          have N1304 := Fr.app N1301 Nq1303
          show own_Go _ _ _ _ _ (State.setTop _ (mkF _ 374 _ [(.ref r_1062), (.ref r_1062)]))
          refine own_virtual X1303 hx hZ (y := (⟨"java/lang/String", "equals", "(Ljava/lang/Object;)Z"⟩ : MethodName)) (z := (⟨"java/lang/String", "equals", "(Ljava/lang/Object;)Z"⟩ : MethodName)) hown (own_hw hw 253 rfl) (own_hw hw 254 rfl) (own_hw hw 256 rfl) (own_hw hw 255 rfl) rfl (a := r_1062) f1265 (by decide) (rm_eq l Z a0 hw [] r_1062 T1245.heap n0 z1283 ) (own_hw hw 257 rfl) (own_hw hw 3 rfl) (by decide) e1303 (by rw [hml]; rfl) [(.ref r_1062)] 0 (by decide) (Nat.le_of_eq rfl) (by decide) (by decide) (lenOf own_pd22 rfl) rfl rfl 377 rfl (hb hby at_374) fun v1305 T1305 Lc1305 X1305 hQ1305 => ?_
          obtain ⟨rfl, Nq1305, e1305⟩ := hQ1305
          have N1306 := Fr.app N1304 Nq1305
          show own_Go _ _ _ _ _ (State.setTop _ (mkF _ 377 _ [(.int (1 : Int32))]))
          refine own_ifYes X1305 hx 382 (hb hby at_377) (by decide) (by decide) rfl ?_
          refine own_aload X1305 hx 384 rfl (hb hby at_382) rfl rfl ?_
          refine own_virtual X1305 hx hZ (y := (⟨"com/example/measured_reasoner/measuredreasoner/Summary$Field", "value", "()Ljava/lang/Number;"⟩ : MethodName)) (z := (⟨"com/example/measured_reasoner/measuredreasoner/Summary$Field", "value", "()Ljava/lang/Number;"⟩ : MethodName)) hown (own_hw hw 258 rfl) (own_hw hw 259 rfl) (own_hw hw 261 rfl) (own_hw hw 260 rfl) rfl (a := f_1199) f1274 (by decide) (rm_fval l Z a0 hw [] f_1199 r_1199 T1245.heap n0 z1283 f1276) (own_hw hw 262 rfl) (own_hw hw 86 rfl) (by decide) e1305 (by rw [hml]; rfl) [] 0 (by decide) (Nat.le_of_eq rfl) (by decide) (by decide) (lenOf own_pd29 rfl) rfl rfl 387 rfl (hb hby at_384) fun v1307 T1307 Lc1307 X1307 hQ1307 => ?_
          obtain ⟨rfl, Nq1307, e1307⟩ := hQ1307
          have N1308 := Fr.app N1306 Nq1307
          show own_Go _ _ _ _ _ (State.setTop _ (mkF _ 387 _ [(.ref r_1199)]))
          refine own_astore X1307 hx 389 rfl (hb hby at_387) rfl #[.val (.int i0), .val (.int i1), .val (.int i2), .val (.int i3), .val (.int i4), .val (.int (0 : Int32)), .val (.int (1 : Int32)), .val (.ref b1009), .val (.ref b1036), .val (.ref r_1062), .val (.double (own_d1 i1)), .second, .val (.double (own_d2 i2)), .second, .val (.ref b1074), .val (.ref b1074), .val (.ref u_1245), .val (.int (2 : Int32)), .val (.int (0 : Int32)), .val (.ref f_1109), .val (.ref r_1109), .val (.double (own_d1 i1)), .second, .val (.ref f_1199), .val (.ref r_1199), .unset, .unset] rfl ?_
          refine own_aload X1307 hx 391 rfl (hb hby at_389) rfl rfl ?_
          obtain ⟨T1309, X1309, e1309, st1309⟩ := instY X1307 hx hZ hown (own_hw hw 263 rfl) e1307 (Ins.self f1277) (g := (mkF m 391 #[.val (.int i0), .val (.int i1), .val (.int i2), .val (.int i3), .val (.int i4), .val (.int (0 : Int32)), .val (.int (1 : Int32)), .val (.ref b1009), .val (.ref b1036), .val (.ref r_1062), .val (.double (own_d1 i1)), .second, .val (.double (own_d2 i2)), .second, .val (.ref b1074), .val (.ref b1074), .val (.ref u_1245), .val (.int (2 : Int32)), .val (.int (0 : Int32)), .val (.ref f_1109), .val (.ref r_1109), .val (.double (own_d1 i1)), .second, .val (.ref f_1199), .val (.ref r_1199), .unset, .unset] [(.ref r_1199)])) rfl rfl (hb hby at_391)
          refine own_st st1309 ?_
          show own_Go _ _ _ _ _ (State.setTop _ (mkF _ 394 #[.val (.int i0), .val (.int i1), .val (.int i2), .val (.int i3), .val (.int i4), .val (.int (0 : Int32)), .val (.int (1 : Int32)), .val (.ref b1009), .val (.ref b1036), .val (.ref r_1062), .val (.double (own_d1 i1)), .second, .val (.double (own_d2 i2)), .second, .val (.ref b1074), .val (.ref b1074), .val (.ref u_1245), .val (.int (2 : Int32)), .val (.int (0 : Int32)), .val (.ref f_1109), .val (.ref r_1109), .val (.double (own_d1 i1)), .second, .val (.ref f_1199), .val (.ref r_1199), .unset, .unset] [(.int (1 : Int32))]))
          refine own_ifYes X1309 hx 399 (hb hby at_394) (by decide) (by decide) rfl ?_
          refine own_aload X1309 hx 401 rfl (hb hby at_399) rfl rfl ?_
          obtain ⟨T1310, X1310, e1310, st1310⟩ := castY X1309 hx hZ hown (own_hw hw 263 rfl) e1309 (Ins.self f1277) (g := (mkF m 401 #[.val (.int i0), .val (.int i1), .val (.int i2), .val (.int i3), .val (.int i4), .val (.int (0 : Int32)), .val (.int (1 : Int32)), .val (.ref b1009), .val (.ref b1036), .val (.ref r_1062), .val (.double (own_d1 i1)), .second, .val (.double (own_d2 i2)), .second, .val (.ref b1074), .val (.ref b1074), .val (.ref u_1245), .val (.int (2 : Int32)), .val (.int (0 : Int32)), .val (.ref f_1109), .val (.ref r_1109), .val (.double (own_d1 i1)), .second, .val (.ref f_1199), .val (.ref r_1199), .unset, .unset] [(.ref r_1199)])) rfl rfl (hb hby at_401)
          refine own_st st1310 ?_
          show own_Go _ _ _ _ _ (State.setTop _ (mkF _ 404 #[.val (.int i0), .val (.int i1), .val (.int i2), .val (.int i3), .val (.int i4), .val (.int (0 : Int32)), .val (.int (1 : Int32)), .val (.ref b1009), .val (.ref b1036), .val (.ref r_1062), .val (.double (own_d1 i1)), .second, .val (.double (own_d2 i2)), .second, .val (.ref b1074), .val (.ref b1074), .val (.ref u_1245), .val (.int (2 : Int32)), .val (.int (0 : Int32)), .val (.ref f_1109), .val (.ref r_1109), .val (.double (own_d1 i1)), .second, .val (.ref f_1199), .val (.ref r_1199), .unset, .unset] [(.ref r_1199)]))
          refine own_virtual X1310 hx hZ (y := (⟨"java/lang/Double", "doubleValue", "()D"⟩ : MethodName)) (z := (⟨"java/lang/Double", "doubleValue", "()D"⟩ : MethodName)) hown (own_hw hw 264 rfl) (own_hw hw 265 rfl) (own_hw hw 267 rfl) (own_hw hw 266 rfl) rfl (a := r_1199) f1277 (by decide) (rm_dval l Z a0 hw [] r_1199 (own_d2 i2) T1245.heap n0 z1283 f1278) (own_hw hw 268 rfl) (own_hw hw 89 rfl) (by decide) e1310 (by rw [hml]; rfl) [] 0 (by decide) (Nat.le_of_eq rfl) (by decide) (by decide) (lenOf own_pd30 rfl) rfl rfl 407 rfl (hb hby at_404) fun v1311 T1311 Lc1311 X1311 hQ1311 => ?_
          obtain ⟨rfl, Nq1311, e1311⟩ := hQ1311
          have N1312 := Fr.app N1308 Nq1311
          show own_Go _ _ _ _ _ (State.setTop _ (mkF _ 407 _ [(.double (own_d2 i2))]))
          refine own_dstore X1311 hx 409 rfl (hb hby at_407) #[.val (.int i0), .val (.int i1), .val (.int i2), .val (.int i3), .val (.int i4), .val (.int (0 : Int32)), .val (.int (1 : Int32)), .val (.ref b1009), .val (.ref b1036), .val (.ref r_1062), .val (.double (own_d1 i1)), .second, .val (.double (own_d2 i2)), .second, .val (.ref b1074), .val (.ref b1074), .val (.ref u_1245), .val (.int (2 : Int32)), .val (.int (0 : Int32)), .val (.ref f_1109), .val (.ref r_1109), .val (.double (own_d1 i1)), .second, .val (.ref f_1199), .val (.ref r_1199), .val (.double (own_d2 i2)), .second] rfl ?_
          refine own_dload X1311 hx 411 rfl (hb hby at_409) rfl ?_
          refine own_dload X1311 hx 413 rfl (hb hby at_411) rfl ?_
          refine own_dcmp X1311 hx 414 rfl (hb hby at_413) (0 : Int32) (own_self (own_d2n i2)) ?_
          refine own_ifYes X1311 hx 419 (hb hby at_414) (by decide) (by decide) rfl ?_
          refine own_iconst X1311 hx 420 rfl (hb hby at_419) (1 : Int32) rfl ?_
          refine own_ret X1311 (some (.int (1 : Int32))) (fun h => by rw [Bd.returns] at h; cases h) Bd.notSynchronized (by decide) (by decide) ?_ (fun fs hr => retN X1311 hx (t := .boolean) Bd.returns (by simp) (hb hby at_420) hr)
          show Q_rm0 Z i0 i1 i2 i3 i4 cs aE kE mA mL mR h0 n0 _ T1311.heap _
          rw [e1311]
          exact ⟨rfl, N1312⟩
      ·
        show own_Go _ _ _ _ _ (State.setTop _ (mkF _ 106 #[.val (.int i0), .val (.int i1), .val (.int i2), .val (.int i3), .val (.int i4), .val (.int (1 : Int32)), .val (.int f6), .val (.ref b1009), .val (.ref b1036), .val (.ref r_1062), .val (.double (own_d1 i1)), .second, .val (.double (own_d2 i2)), .second, .val (.ref b1074), .unset, .unset, .unset, .unset, .unset, .unset, .unset, .unset, .unset, .unset, .unset, .unset] []))
        refine own_iload X1087 hx 108 rfl (hb hby at_106) rfl ?_
        refine own_ifNo X1087 hx 111 rfl (hb hby at_108) (by decide) ?_
        refine own_aload X1087 hx 113 rfl (hb hby at_111) rfl rfl ?_
        refine own_aload X1087 hx 115 rfl (hb hby at_113) rfl rfl ?_
        refine own_iloadN X1087 hx 116 rfl (hb hby at_115) rfl ?_
        refine own_i2l X1087 hx 117 rfl (hb hby at_116) _ rfl ?_
        refine own_virtual X1087 hx hZ (y := (⟨"com/example/measured_reasoner/measuredreasoner/Summary", "count", "(Ljava/lang/String;J)Lcom/example/measured_reasoner/measuredreasoner/Summary;"⟩ : MethodName)) (z := (⟨"com/example/measured_reasoner/measuredreasoner/Summary", "count", "(Ljava/lang/String;J)Lcom/example/measured_reasoner/measuredreasoner/Summary;"⟩ : MethodName)) hown (own_hw hw 269 rfl) (own_hw hw 270 rfl) (own_hw hw 272 rfl) (own_hw hw 271 rfl) rfl (a := b1074) f1088 (by decide) (rm_count0 l Z a0 hw [] b1074 r_1062 (i0.toInt64) li_1087 (0 : Int32) aE kE T1087.heap n0 z1107 f1089 f1090 f1091 f1092 f1093 f1102 f1101 (Ne.symm ne1095) ge1099 f1108) (own_hw hw 273 rfl) (own_hw hw 48 rfl) (by decide) rfl (by rw [hml]; rfl) [(.ref r_1062), (.long (i0.toInt64))] 0 (by decide) (Nat.le_of_eq rfl) (by decide) (by decide) (lenOf own_pd31 rfl) rfl rfl 120 rfl (hb hby at_117) fun v1313 T1313 Lc1313 X1313 hQ1313 => ?_
        obtain ⟨f_1313, r_1313, b_1313, kb_1313, rfl, Nq1313, Kq1313, sd0_1313, sd1_1313, sd2_1313, sd3_1313, sd4_1313, f1314, f1315, f1316, f1317, f1318, f1319, f1320, f1321, f1322, f1323, f1324⟩ := hQ1313
        have N1325 := Fr.app N1094 Nq1313
        have ne1326 : aE ≠ f_1313 := Nat.ne_of_lt (Nat.lt_of_lt_of_le f1102.lt sd0_1313)
        have ne1327 : b1036 ≠ f_1313 := Nat.ne_of_lt (Nat.lt_of_lt_of_le f1103.lt sd0_1313)
        have ne1328 : r_1062 ≠ f_1313 := Nat.ne_of_lt (Nat.lt_of_lt_of_le f1104.lt sd0_1313)
        have ne1329 : b1074 ≠ f_1313 := Nat.ne_of_lt (Nat.lt_of_lt_of_le f1088.lt sd0_1313)
        have ne1330 : li_1087 ≠ f_1313 := Nat.ne_of_lt (Nat.lt_of_lt_of_le f1090.lt sd0_1313)
        have ge1331 : n0 ≤ f_1313 := Nat.le_trans z1107 sd0_1313
        have ne1332 : b1036 ≠ r_1313 := own_on sd1_1313 ge1039 f1103.lt
        have ne1333 : r_1062 ≠ r_1313 := own_on sd1_1313 ge1067 f1104.lt
        have ne1334 : b1074 ≠ r_1313 := own_on sd1_1313 ge1078 f1088.lt
        have ne1335 : li_1087 ≠ r_1313 := own_on sd1_1313 ge1099 f1090.lt
        have ne1336 : aE ≠ b_1313 := Nat.ne_of_lt (Nat.lt_of_lt_of_le f1102.lt sd2_1313)
        have ne1337 : b1036 ≠ b_1313 := Nat.ne_of_lt (Nat.lt_of_lt_of_le f1103.lt sd2_1313)
        have ne1338 : r_1062 ≠ b_1313 := Nat.ne_of_lt (Nat.lt_of_lt_of_le f1104.lt sd2_1313)
        have ne1339 : b1074 ≠ b_1313 := Nat.ne_of_lt (Nat.lt_of_lt_of_le f1088.lt sd2_1313)
        have ne1340 : li_1087 ≠ b_1313 := Nat.ne_of_lt (Nat.lt_of_lt_of_le f1090.lt sd2_1313)
        have ge1341 : n0 ≤ b_1313 := Nat.le_trans z1107 sd2_1313
        have f1342 := own_staKeep f1100 Kq1313 (nsS f1090.nostat ns0)
        have f1343 := own_staKeep f1101 Kq1313 (nsS f1090.nostat ns0)
        have f1344 := f1102.keep Kq1313 (ninS ne1095 nin0)
        have f1345 := f1103.keep Kq1313
        have f1346 := f1104.keep Kq1313
        have f1347 := f1088.keep Kq1313
        have f1348 := f1089.keep Kq1313 (ninS ne1098 nin0)
        have f1349 := f1090.keep Kq1313
        have z1353 := Nat.le_trans z1107 Kq1313.1
        have f1354 := f1108.keep Kq1313 (allS ge1099 all0) (nsS f1090.nostat ns0)
        show own_Go _ _ _ _ _ (State.setTop _ (mkF _ 120 _ [(.ref b1074)]))
        refine own_pop X1313 hx 121 rfl (hb hby at_120) rfl ?_
        refine own_aload X1313 hx 123 rfl (hb hby at_121) rfl rfl ?_
        refine own_aload X1313 hx 125 rfl (hb hby at_123) rfl rfl ?_
        refine own_dload X1313 hx 127 rfl (hb hby at_125) rfl ?_
        refine own_virtual X1313 hx hZ (y := (⟨"com/example/measured_reasoner/measuredreasoner/Summary", "mean", "(Ljava/lang/String;D)Lcom/example/measured_reasoner/measuredreasoner/Summary;"⟩ : MethodName)) (z := (⟨"com/example/measured_reasoner/measuredreasoner/Summary", "mean", "(Ljava/lang/String;D)Lcom/example/measured_reasoner/measuredreasoner/Summary;"⟩ : MethodName)) hown (own_hw hw 79 rfl) (own_hw hw 80 rfl) (own_hw hw 82 rfl) (own_hw hw 81 rfl) rfl (a := b1074) f1347 (by decide) (rm_mean1 l Z a0 hw [] b1074 b1036 (own_d1 i1) li_1087 ((0 : Int32) + (1 : Int32)) b_1313 kb_1313 f_1313 T1313.heap n0 z1353 f1348 f1319 f1320 f1321 f1322 f1323 f1324 ge1341 ne1340 ge1099) (own_hw hw 83 rfl) (own_hw hw 48 rfl) (by decide) rfl (by rw [hml]; rfl) [(.ref b1036), (.double (own_d1 i1))] 0 (by decide) (Nat.le_of_eq rfl) (by decide) (by decide) (lenOf own_pd26 rfl) rfl rfl 130 rfl (hb hby at_127) fun v1355 T1355 Lc1355 X1355 hQ1355 => ?_
        obtain ⟨f_1355, r_1355, rfl, Nq1355, Kq1355, sd0_1355, sd1_1355, f1356, f1357, f1358, f1359, f1360, f1361, f1362, f1363, f1364, f1365⟩ := hQ1355
        have N1366 := Fr.app N1325 Nq1355
        have ne1367 : aE ≠ f_1355 := Nat.ne_of_lt (Nat.lt_of_lt_of_le f1344.lt sd0_1355)
        have ne1368 : b1036 ≠ f_1355 := Nat.ne_of_lt (Nat.lt_of_lt_of_le f1345.lt sd0_1355)
        have ne1369 : r_1062 ≠ f_1355 := Nat.ne_of_lt (Nat.lt_of_lt_of_le f1346.lt sd0_1355)
        have ne1370 : b1074 ≠ f_1355 := Nat.ne_of_lt (Nat.lt_of_lt_of_le f1347.lt sd0_1355)
        have ne1371 : li_1087 ≠ f_1355 := Nat.ne_of_lt (Nat.lt_of_lt_of_le f1319.lt sd0_1355)
        have ne1372 : f_1313 ≠ f_1355 := Nat.ne_of_lt (Nat.lt_of_lt_of_le f1314.lt sd0_1355)
        have ne1373 : r_1313 ≠ f_1355 := Nat.ne_of_lt (Nat.lt_of_lt_of_le f1317.lt sd0_1355)
        have ne1374 : b_1313 ≠ f_1355 := Nat.ne_of_lt (Nat.lt_of_lt_of_le f1323.lt sd0_1355)
        have ge1375 : n0 ≤ f_1355 := Nat.le_trans z1353 sd0_1355
        have ne1376 : b1036 ≠ r_1355 := own_on sd1_1355 ge1039 f1345.lt
        have ne1377 : r_1062 ≠ r_1355 := own_on sd1_1355 ge1067 f1346.lt
        have ne1378 : b1074 ≠ r_1355 := own_on sd1_1355 ge1078 f1347.lt
        have ne1379 : li_1087 ≠ r_1355 := own_on sd1_1355 ge1099 f1319.lt
        have ne1380 : f_1313 ≠ r_1355 := own_on sd1_1355 ge1331 f1314.lt
        have ne1381 : b_1313 ≠ r_1355 := own_on sd1_1355 ge1341 f1323.lt
        have f1382 := own_staKeep f1342 Kq1355 (nsS f1319.nostat (nsS f1323.nostat ns0))
        have f1383 := own_staKeep f1343 Kq1355 (nsS f1319.nostat (nsS f1323.nostat ns0))
        have f1384 := f1344.keep Kq1355 (ninS ne1095 (ninS ne1336 nin0))
        have f1385 := f1345.keep Kq1355
        have f1386 := f1346.keep Kq1355
        have f1387 := f1347.keep Kq1355
        have f1388 := f1348.keep Kq1355 (ninS ne1098 (ninS ne1339 nin0))
        have f1389 := f1319.keep Kq1355
        have f1390 := f1314.keep Kq1355
        have f1391 := f1315.keep Kq1355 (ninS (Ne.symm ne1330) (ninS sd3_1313 nin0))
        have f1392 := f1316.keep Kq1355 (ninS (Ne.symm ne1330) (ninS sd3_1313 nin0))
        have f1393 := f1317.keep Kq1355
        have f1394 := f1318.keep Kq1355 (ninS (Ne.symm ne1335) (ninS sd4_1313 nin0))
        have z1399 := Nat.le_trans z1353 Kq1355.1
        have f1400 := f1354.keep Kq1355 (allS ge1099 (allS ge1341 all0)) (nsS f1319.nostat (nsS f1323.nostat ns0))
        show own_Go _ _ _ _ _ (State.setTop _ (mkF _ 130 _ [(.ref b1074)]))
        refine own_astore X1355 hx 132 rfl (hb hby at_130) rfl #[.val (.int i0), .val (.int i1), .val (.int i2), .val (.int i3), .val (.int i4), .val (.int (1 : Int32)), .val (.int f6), .val (.ref b1009), .val (.ref b1036), .val (.ref r_1062), .val (.double (own_d1 i1)), .second, .val (.double (own_d2 i2)), .second, .val (.ref b1074), .val (.ref b1074), .unset, .unset, .unset, .unset, .unset, .unset, .unset, .unset, .unset, .unset, .unset] rfl ?_
        refine own_aload X1355 hx 134 rfl (hb hby at_132) rfl rfl ?_
        refine own_aload X1355 hx 136 rfl (hb hby at_134) rfl rfl ?_
        refine own_acmp X1355 hx true 141 (hb hby at_136) rfl rfl (decide_eq_true rfl) (by decide) (by decide) ?_
        rcases hf6 with rfl | rfl
        ·
          show own_Go _ _ _ _ _ (State.setTop _ (mkF _ 141 #[.val (.int i0), .val (.int i1), .val (.int i2), .val (.int i3), .val (.int i4), .val (.int (1 : Int32)), .val (.int (0 : Int32)), .val (.ref b1009), .val (.ref b1036), .val (.ref r_1062), .val (.double (own_d1 i1)), .second, .val (.double (own_d2 i2)), .second, .val (.ref b1074), .val (.ref b1074), .unset, .unset, .unset, .unset, .unset, .unset, .unset, .unset, .unset, .unset, .unset] []))
          refine own_iload X1355 hx 143 rfl (hb hby at_141) rfl ?_
          refine own_ifYes X1355 hx 156 (hb hby at_143) (by decide) (by decide) rfl ?_
          refine own_aload X1355 hx 158 rfl (hb hby at_156) rfl rfl ?_
          refine own_virtual X1355 hx hZ (y := (⟨"com/example/measured_reasoner/measuredreasoner/Summary", "fields", "()Ljava/util/List;"⟩ : MethodName)) (z := (⟨"com/example/measured_reasoner/measuredreasoner/Summary", "fields", "()Ljava/util/List;"⟩ : MethodName)) hown (own_hw hw 154 rfl) (own_hw hw 155 rfl) (own_hw hw 157 rfl) (own_hw hw 156 rfl) rfl (a := b1074) f1387 (by decide) (rm_fs l Z a0 hw [] b1074 li_1087 mA mL mR T1355.heap n0 z1399 f1388 f1361 M1 M2 M3 nAL nAR) (own_hw hw 158 rfl) (own_hw hw 48 rfl) (by decide) rfl (by rw [hml]; rfl) [] 0 (by decide) (Nat.le_of_eq rfl) (by decide) (by decide) (lenOf own_pd27 rfl) rfl rfl 161 rfl (hb hby at_158) fun v1401 T1401 Lc1401 X1401 hQ1401 => ?_
          obtain ⟨u_1401, rfl, Nq1401, Kq1401, sd0_1401, f1402, f1403, f1404⟩ := hQ1401
          have N1405 := Fr.app N1366 Nq1401
          have ne1406 : aE ≠ u_1401 := Nat.ne_of_lt (Nat.lt_of_lt_of_le f1384.lt sd0_1401)
          have ne1407 : b1036 ≠ u_1401 := Nat.ne_of_lt (Nat.lt_of_lt_of_le f1385.lt sd0_1401)
          have ne1408 : r_1062 ≠ u_1401 := Nat.ne_of_lt (Nat.lt_of_lt_of_le f1386.lt sd0_1401)
          have ne1409 : b1074 ≠ u_1401 := Nat.ne_of_lt (Nat.lt_of_lt_of_le f1387.lt sd0_1401)
          have ne1410 : li_1087 ≠ u_1401 := Nat.ne_of_lt (Nat.lt_of_lt_of_le f1361.lt sd0_1401)
          have ne1411 : f_1313 ≠ u_1401 := Nat.ne_of_lt (Nat.lt_of_lt_of_le f1390.lt sd0_1401)
          have ne1412 : r_1313 ≠ u_1401 := Nat.ne_of_lt (Nat.lt_of_lt_of_le f1393.lt sd0_1401)
          have ne1413 : f_1355 ≠ u_1401 := Nat.ne_of_lt (Nat.lt_of_lt_of_le f1356.lt sd0_1401)
          have ne1414 : r_1355 ≠ u_1401 := Nat.ne_of_lt (Nat.lt_of_lt_of_le f1359.lt sd0_1401)
          have ne1415 : b_1313 ≠ u_1401 := Nat.ne_of_lt (Nat.lt_of_lt_of_le f1365.lt sd0_1401)
          have ge1416 : n0 ≤ u_1401 := Nat.le_trans z1399 sd0_1401
          have f1417 := own_staKeep f1382 Kq1401 ns0
          have f1418 := own_staKeep f1383 Kq1401 ns0
          have f1419 := f1384.keep Kq1401 nin0
          have f1420 := f1385.keep Kq1401
          have f1421 := f1386.keep Kq1401
          have f1422 := f1387.keep Kq1401
          have f1423 := f1388.keep Kq1401 nin0
          have f1424 := f1361.keep Kq1401
          have f1425 := f1390.keep Kq1401
          have f1426 := f1391.keep Kq1401 nin0
          have f1427 := f1392.keep Kq1401 nin0
          have f1428 := f1393.keep Kq1401
          have f1429 := f1394.keep Kq1401 nin0
          have f1430 := f1356.keep Kq1401
          have f1431 := f1357.keep Kq1401 nin0
          have f1432 := f1358.keep Kq1401 nin0
          have f1433 := f1359.keep Kq1401
          have f1434 := f1360.keep Kq1401 nin0
          have f1435 := f1362.keep Kq1401 nin0
          have f1436 := f1363.keep Kq1401 nin0
          have f1437 := f1364.keep Kq1401 nin0
          have f1438 := f1365.keep Kq1401 nin0
          have z1439 := Nat.le_trans z1399 Kq1401.1
          have f1440 := f1400.keep Kq1401 all0 ns0
          show own_Go _ _ _ _ _ (State.setTop _ (mkF _ 161 _ [(.ref u_1401)]))
          refine own_astore X1401 hx 163 rfl (hb hby at_161) rfl #[.val (.int i0), .val (.int i1), .val (.int i2), .val (.int i3), .val (.int i4), .val (.int (1 : Int32)), .val (.int (0 : Int32)), .val (.ref b1009), .val (.ref b1036), .val (.ref r_1062), .val (.double (own_d1 i1)), .second, .val (.double (own_d2 i2)), .second, .val (.ref b1074), .val (.ref b1074), .val (.ref u_1401), .unset, .unset, .unset, .unset, .unset, .unset, .unset, .unset, .unset, .unset] rfl ?_
          refine own_iconst X1401 hx 164 rfl (hb hby at_163) (1 : Int32) rfl ?_
          refine own_iload X1401 hx 166 rfl (hb hby at_164) rfl ?_
          refine own_ifNo X1401 hx 169 rfl (hb hby at_166) (by decide) ?_
          refine own_iconst X1401 hx 170 rfl (hb hby at_169) (1 : Int32) rfl ?_
          refine own_goto X1401 hx 174 (hb hby at_170) (by decide) rfl ?_
          refine own_iadd X1401 hx 175 rfl (hb hby at_174) (2 : Int32) rfl ?_
          refine own_iload X1401 hx 177 rfl (hb hby at_175) rfl ?_
          refine own_ifYes X1401 hx 184 (hb hby at_177) (by decide) (by decide) rfl ?_
          refine own_iconst X1401 hx 185 rfl (hb hby at_184) (0 : Int32) rfl ?_
          refine own_iadd X1401 hx 186 rfl (hb hby at_185) (2 : Int32) rfl ?_
          refine own_istore X1401 hx 188 rfl (hb hby at_186) #[.val (.int i0), .val (.int i1), .val (.int i2), .val (.int i3), .val (.int i4), .val (.int (1 : Int32)), .val (.int (0 : Int32)), .val (.ref b1009), .val (.ref b1036), .val (.ref r_1062), .val (.double (own_d1 i1)), .second, .val (.double (own_d2 i2)), .second, .val (.ref b1074), .val (.ref b1074), .val (.ref u_1401), .val (.int (2 : Int32)), .unset, .unset, .unset, .unset, .unset, .unset, .unset, .unset, .unset] rfl ?_
          refine own_aload X1401 hx 190 rfl (hb hby at_188) rfl rfl ?_
          refine own_iface X1401 hx hZ (C := "java/util/Collections$UnmodifiableRandomAccessList") (xi := (⟨"java/util/List", "size", "()I"⟩ : MethodName)) (y := (⟨"java/util/Collections$UnmodifiableCollection", "size", "()I"⟩ : MethodName)) hown (own_hw hw 201 rfl) (own_hw hw 202 rfl) (own_hw hw 203 rfl) rfl (own_hw hw 204 rfl) (own_hw hw 205 rfl) (own_hw hw 206 rfl) (own_hw hw 207 rfl) (own_hw hw 208 rfl) (a := u_1401) f1402 (by decide) (rm_usize l Z a0 hw [] u_1401 li_1087 (2 : Int32) T1401.heap n0 z1439 f1403 f1424 f1437) (own_hw hw 209 rfl) (own_hw hw 194 rfl) (by decide) rfl (by rw [hml]; rfl) [] 0 (by decide) (Nat.le_of_eq rfl) (by decide) (by decide) (lenOf own_pd10 rfl) rfl rfl 195 rfl (hb hby at_190) fun v1441 T1441 Lc1441 X1441 hQ1441 => ?_
          obtain ⟨rfl, Nq1441, e1441⟩ := hQ1441
          have N1442 := Fr.app N1405 Nq1441
          show own_Go _ _ _ _ _ (State.setTop _ (mkF _ 195 _ [(.int (2 : Int32))]))
          refine own_iload X1441 hx 197 rfl (hb hby at_195) rfl ?_
          refine own_icmpYes X1441 hx 202 (hb hby at_197) (by decide) (by decide) rfl ?_
          refine own_iload X1441 hx 204 rfl (hb hby at_202) rfl ?_
          refine own_ifNo X1441 hx 207 rfl (hb hby at_204) (by decide) ?_
          refine own_iconst X1441 hx 208 rfl (hb hby at_207) (1 : Int32) rfl ?_
          refine own_goto X1441 hx 212 (hb hby at_208) (by decide) rfl ?_
          refine own_istore X1441 hx 214 rfl (hb hby at_212) #[.val (.int i0), .val (.int i1), .val (.int i2), .val (.int i3), .val (.int i4), .val (.int (1 : Int32)), .val (.int (0 : Int32)), .val (.ref b1009), .val (.ref b1036), .val (.ref r_1062), .val (.double (own_d1 i1)), .second, .val (.double (own_d2 i2)), .second, .val (.ref b1074), .val (.ref b1074), .val (.ref u_1401), .val (.int (2 : Int32)), .val (.int (1 : Int32)), .unset, .unset, .unset, .unset, .unset, .unset, .unset, .unset] rfl ?_
          refine own_iload X1441 hx 216 rfl (hb hby at_214) rfl ?_
          refine own_ifNo X1441 hx 219 rfl (hb hby at_216) (by decide) ?_
          refine own_aload X1441 hx 221 rfl (hb hby at_219) rfl rfl ?_
          refine own_iconst X1441 hx 222 rfl (hb hby at_221) (0 : Int32) rfl ?_
          refine own_iface X1441 hx hZ (C := "java/util/Collections$UnmodifiableRandomAccessList") (xi := (⟨"java/util/List", "get", "(I)Ljava/lang/Object;"⟩ : MethodName)) (y := (⟨"java/util/Collections$UnmodifiableList", "get", "(I)Ljava/lang/Object;"⟩ : MethodName)) hown (own_hw hw 219 rfl) (own_hw hw 220 rfl) (own_hw hw 221 rfl) rfl (own_hw hw 222 rfl) (own_hw hw 223 rfl) (own_hw hw 224 rfl) (own_hw hw 225 rfl) (own_hw hw 208 rfl) (a := u_1401) f1402 (by decide) (rm_uget l Z a0 hw [] u_1401 (0 : Int32) li_1087 (2 : Int32) b_1313 kb_1313 [(.ref f_1313), (.ref f_1355), .null, .null, .null, .null, .null, .null, .null, .null] f_1313 T1401.heap n0 z1439 f1404 f1424 f1436 f1437 f1438 (by decide) (by decide) ⟨by decide, by decide⟩ rfl) (own_hw hw 226 rfl) (own_hw hw 188 rfl) (by decide) e1441 (by rw [hml]; rfl) [(.int (0 : Int32))] 0 (by decide) (Nat.le_of_eq rfl) (by decide) (by decide) (lenOf own_pd12 rfl) rfl rfl 227 rfl (hb hby at_222) fun v1443 T1443 Lc1443 X1443 hQ1443 => ?_
          obtain ⟨rfl, Nq1443, e1443⟩ := hQ1443
          have N1444 := Fr.app N1442 Nq1443
          show own_Go _ _ _ _ _ (State.setTop _ (mkF _ 227 _ [(.ref f_1313)]))
          obtain ⟨T1445, X1445, e1445, st1445⟩ := castY X1443 hx hZ hown (own_hw hw 246 rfl) e1443 (Ins.self f1425) (g := (mkF m 227 #[.val (.int i0), .val (.int i1), .val (.int i2), .val (.int i3), .val (.int i4), .val (.int (1 : Int32)), .val (.int (0 : Int32)), .val (.ref b1009), .val (.ref b1036), .val (.ref r_1062), .val (.double (own_d1 i1)), .second, .val (.double (own_d2 i2)), .second, .val (.ref b1074), .val (.ref b1074), .val (.ref u_1401), .val (.int (2 : Int32)), .val (.int (1 : Int32)), .unset, .unset, .unset, .unset, .unset, .unset, .unset, .unset] [(.ref f_1313)])) rfl rfl (hb hby at_227)
          refine own_st st1445 ?_
          show own_Go _ _ _ _ _ (State.setTop _ (mkF _ 230 #[.val (.int i0), .val (.int i1), .val (.int i2), .val (.int i3), .val (.int i4), .val (.int (1 : Int32)), .val (.int (0 : Int32)), .val (.ref b1009), .val (.ref b1036), .val (.ref r_1062), .val (.double (own_d1 i1)), .second, .val (.double (own_d2 i2)), .second, .val (.ref b1074), .val (.ref b1074), .val (.ref u_1401), .val (.int (2 : Int32)), .val (.int (1 : Int32)), .unset, .unset, .unset, .unset, .unset, .unset, .unset, .unset] [(.ref f_1313)]))
          refine own_astore X1445 hx 232 rfl (hb hby at_230) rfl #[.val (.int i0), .val (.int i1), .val (.int i2), .val (.int i3), .val (.int i4), .val (.int (1 : Int32)), .val (.int (0 : Int32)), .val (.ref b1009), .val (.ref b1036), .val (.ref r_1062), .val (.double (own_d1 i1)), .second, .val (.double (own_d2 i2)), .second, .val (.ref b1074), .val (.ref b1074), .val (.ref u_1401), .val (.int (2 : Int32)), .val (.int (1 : Int32)), .val (.ref f_1313), .unset, .unset, .unset, .unset, .unset, .unset, .unset] rfl ?_
          refine own_aload X1445 hx 234 rfl (hb hby at_232) rfl rfl ?_
          refine own_aload X1445 hx 236 rfl (hb hby at_234) rfl rfl ?_
          refine own_virtual X1445 hx hZ (y := (⟨"com/example/measured_reasoner/measuredreasoner/Summary$Field", "name", "()Ljava/lang/String;"⟩ : MethodName)) (z := (⟨"com/example/measured_reasoner/measuredreasoner/Summary$Field", "name", "()Ljava/lang/String;"⟩ : MethodName)) hown (own_hw hw 248 rfl) (own_hw hw 249 rfl) (own_hw hw 251 rfl) (own_hw hw 250 rfl) rfl (a := f_1313) f1425 (by decide) (rm_fname l Z a0 hw [] f_1313 r_1062 T1401.heap n0 z1439 f1426) (own_hw hw 252 rfl) (own_hw hw 86 rfl) (by decide) e1445 (by rw [hml]; rfl) [] 1 (by decide) (Nat.le_of_eq rfl) (by decide) (by decide) (lenOf own_pd28 rfl) rfl rfl 239 rfl (hb hby at_236) fun v1446 T1446 Lc1446 X1446 hQ1446 => ?_
          obtain ⟨rfl, Nq1446, e1446⟩ := hQ1446
          have N1447 := Fr.app N1444 Nq1446
          show own_Go _ _ _ _ _ (State.setTop _ (mkF _ 239 _ [(.ref r_1062), (.ref r_1062)]))
          refine own_virtual X1446 hx hZ (y := (⟨"java/lang/String", "equals", "(Ljava/lang/Object;)Z"⟩ : MethodName)) (z := (⟨"java/lang/String", "equals", "(Ljava/lang/Object;)Z"⟩ : MethodName)) hown (own_hw hw 253 rfl) (own_hw hw 254 rfl) (own_hw hw 256 rfl) (own_hw hw 255 rfl) rfl (a := r_1062) f1421 (by decide) (rm_eq l Z a0 hw [] r_1062 T1401.heap n0 z1439 ) (own_hw hw 257 rfl) (own_hw hw 3 rfl) (by decide) e1446 (by rw [hml]; rfl) [(.ref r_1062)] 0 (by decide) (Nat.le_of_eq rfl) (by decide) (by decide) (lenOf own_pd22 rfl) rfl rfl 242 rfl (hb hby at_239) fun v1448 T1448 Lc1448 X1448 hQ1448 => ?_
          obtain ⟨rfl, Nq1448, e1448⟩ := hQ1448
          have N1449 := Fr.app N1447 Nq1448
          show own_Go _ _ _ _ _ (State.setTop _ (mkF _ 242 _ [(.int (1 : Int32))]))
          refine own_ifYes X1448 hx 247 (hb hby at_242) (by decide) (by decide) rfl ?_
          refine own_aload X1448 hx 249 rfl (hb hby at_247) rfl rfl ?_
          refine own_virtual X1448 hx hZ (y := (⟨"com/example/measured_reasoner/measuredreasoner/Summary$Field", "value", "()Ljava/lang/Number;"⟩ : MethodName)) (z := (⟨"com/example/measured_reasoner/measuredreasoner/Summary$Field", "value", "()Ljava/lang/Number;"⟩ : MethodName)) hown (own_hw hw 258 rfl) (own_hw hw 259 rfl) (own_hw hw 261 rfl) (own_hw hw 260 rfl) rfl (a := f_1313) f1425 (by decide) (rm_fval l Z a0 hw [] f_1313 r_1313 T1401.heap n0 z1439 f1427) (own_hw hw 262 rfl) (own_hw hw 86 rfl) (by decide) e1448 (by rw [hml]; rfl) [] 0 (by decide) (Nat.le_of_eq rfl) (by decide) (by decide) (lenOf own_pd29 rfl) rfl rfl 252 rfl (hb hby at_249) fun v1450 T1450 Lc1450 X1450 hQ1450 => ?_
          obtain ⟨rfl, Nq1450, e1450⟩ := hQ1450
          have N1451 := Fr.app N1449 Nq1450
          show own_Go _ _ _ _ _ (State.setTop _ (mkF _ 252 _ [(.ref r_1313)]))
          refine own_astore X1450 hx 254 rfl (hb hby at_252) rfl #[.val (.int i0), .val (.int i1), .val (.int i2), .val (.int i3), .val (.int i4), .val (.int (1 : Int32)), .val (.int (0 : Int32)), .val (.ref b1009), .val (.ref b1036), .val (.ref r_1062), .val (.double (own_d1 i1)), .second, .val (.double (own_d2 i2)), .second, .val (.ref b1074), .val (.ref b1074), .val (.ref u_1401), .val (.int (2 : Int32)), .val (.int (1 : Int32)), .val (.ref f_1313), .val (.ref r_1313), .unset, .unset, .unset, .unset, .unset, .unset] rfl ?_
          refine own_aload X1450 hx 256 rfl (hb hby at_254) rfl rfl ?_
          obtain ⟨T1452, X1452, e1452, st1452⟩ := instY X1450 hx hZ hown (own_hw hw 282 rfl) e1450 (Ins.self f1428) (g := (mkF m 256 #[.val (.int i0), .val (.int i1), .val (.int i2), .val (.int i3), .val (.int i4), .val (.int (1 : Int32)), .val (.int (0 : Int32)), .val (.ref b1009), .val (.ref b1036), .val (.ref r_1062), .val (.double (own_d1 i1)), .second, .val (.double (own_d2 i2)), .second, .val (.ref b1074), .val (.ref b1074), .val (.ref u_1401), .val (.int (2 : Int32)), .val (.int (1 : Int32)), .val (.ref f_1313), .val (.ref r_1313), .unset, .unset, .unset, .unset, .unset, .unset] [(.ref r_1313)])) rfl rfl (hb hby at_256)
          refine own_st st1452 ?_
          show own_Go _ _ _ _ _ (State.setTop _ (mkF _ 259 #[.val (.int i0), .val (.int i1), .val (.int i2), .val (.int i3), .val (.int i4), .val (.int (1 : Int32)), .val (.int (0 : Int32)), .val (.ref b1009), .val (.ref b1036), .val (.ref r_1062), .val (.double (own_d1 i1)), .second, .val (.double (own_d2 i2)), .second, .val (.ref b1074), .val (.ref b1074), .val (.ref u_1401), .val (.int (2 : Int32)), .val (.int (1 : Int32)), .val (.ref f_1313), .val (.ref r_1313), .unset, .unset, .unset, .unset, .unset, .unset] [(.int (1 : Int32))]))
          refine own_ifYes X1452 hx 264 (hb hby at_259) (by decide) (by decide) rfl ?_
          refine own_aload X1452 hx 266 rfl (hb hby at_264) rfl rfl ?_
          obtain ⟨T1453, X1453, e1453, st1453⟩ := castY X1452 hx hZ hown (own_hw hw 282 rfl) e1452 (Ins.self f1428) (g := (mkF m 266 #[.val (.int i0), .val (.int i1), .val (.int i2), .val (.int i3), .val (.int i4), .val (.int (1 : Int32)), .val (.int (0 : Int32)), .val (.ref b1009), .val (.ref b1036), .val (.ref r_1062), .val (.double (own_d1 i1)), .second, .val (.double (own_d2 i2)), .second, .val (.ref b1074), .val (.ref b1074), .val (.ref u_1401), .val (.int (2 : Int32)), .val (.int (1 : Int32)), .val (.ref f_1313), .val (.ref r_1313), .unset, .unset, .unset, .unset, .unset, .unset] [(.ref r_1313)])) rfl rfl (hb hby at_266)
          refine own_st st1453 ?_
          show own_Go _ _ _ _ _ (State.setTop _ (mkF _ 269 #[.val (.int i0), .val (.int i1), .val (.int i2), .val (.int i3), .val (.int i4), .val (.int (1 : Int32)), .val (.int (0 : Int32)), .val (.ref b1009), .val (.ref b1036), .val (.ref r_1062), .val (.double (own_d1 i1)), .second, .val (.double (own_d2 i2)), .second, .val (.ref b1074), .val (.ref b1074), .val (.ref u_1401), .val (.int (2 : Int32)), .val (.int (1 : Int32)), .val (.ref f_1313), .val (.ref r_1313), .unset, .unset, .unset, .unset, .unset, .unset] [(.ref r_1313)]))
          refine own_virtual X1453 hx hZ (y := (⟨"java/lang/Long", "longValue", "()J"⟩ : MethodName)) (z := (⟨"java/lang/Long", "longValue", "()J"⟩ : MethodName)) hown (own_hw hw 284 rfl) (own_hw hw 285 rfl) (own_hw hw 287 rfl) (own_hw hw 286 rfl) rfl (a := r_1313) f1428 (by decide) (rm_lval l Z a0 hw [] r_1313 (i0.toInt64) T1401.heap n0 z1439 f1429) (own_hw hw 288 rfl) (own_hw hw 276 rfl) (by decide) e1453 (by rw [hml]; rfl) [] 0 (by decide) (Nat.le_of_eq rfl) (by decide) (by decide) (lenOf own_pd32 rfl) rfl rfl 272 rfl (hb hby at_269) fun v1454 T1454 Lc1454 X1454 hQ1454 => ?_
          obtain ⟨rfl, Nq1454, e1454⟩ := hQ1454
          have N1455 := Fr.app N1451 Nq1454
          show own_Go _ _ _ _ _ (State.setTop _ (mkF _ 272 _ [(.long (i0.toInt64))]))
          refine own_iloadN X1454 hx 273 rfl (hb hby at_272) rfl ?_
          refine own_i2l X1454 hx 274 rfl (hb hby at_273) _ rfl ?_
          refine own_lcmp X1454 hx 275 rfl (hb hby at_274) (0 : Int32) (own_lc _) ?_
          refine own_ifYes X1454 hx 280 (hb hby at_275) (by decide) (by decide) rfl ?_
          refine own_aload X1454 hx 282 rfl (hb hby at_280) rfl rfl ?_
          refine own_iload X1454 hx 284 rfl (hb hby at_282) rfl ?_
          refine own_iface X1454 hx hZ (C := "java/util/Collections$UnmodifiableRandomAccessList") (xi := (⟨"java/util/List", "get", "(I)Ljava/lang/Object;"⟩ : MethodName)) (y := (⟨"java/util/Collections$UnmodifiableList", "get", "(I)Ljava/lang/Object;"⟩ : MethodName)) hown (own_hw hw 219 rfl) (own_hw hw 220 rfl) (own_hw hw 221 rfl) rfl (own_hw hw 222 rfl) (own_hw hw 223 rfl) (own_hw hw 224 rfl) (own_hw hw 225 rfl) (own_hw hw 208 rfl) (a := u_1401) f1402 (by decide) (rm_uget l Z a0 hw [] u_1401 (1 : Int32) li_1087 (2 : Int32) b_1313 kb_1313 [(.ref f_1313), (.ref f_1355), .null, .null, .null, .null, .null, .null, .null, .null] f_1355 T1401.heap n0 z1439 f1404 f1424 f1436 f1437 f1438 (by decide) (by decide) ⟨by decide, by decide⟩ rfl) (own_hw hw 226 rfl) (own_hw hw 188 rfl) (by decide) e1454 (by rw [hml]; rfl) [(.int (1 : Int32))] 0 (by decide) (Nat.le_of_eq rfl) (by decide) (by decide) (lenOf own_pd12 rfl) rfl rfl 289 rfl (hb hby at_284) fun v1456 T1456 Lc1456 X1456 hQ1456 => ?_
          obtain ⟨rfl, Nq1456, e1456⟩ := hQ1456
          have N1457 := Fr.app N1455 Nq1456
          show own_Go _ _ _ _ _ (State.setTop _ (mkF _ 289 _ [(.ref f_1355)]))
          obtain ⟨T1458, X1458, e1458, st1458⟩ := castY X1456 hx hZ hown (own_hw hw 246 rfl) e1456 (Ins.self f1430) (g := (mkF m 289 #[.val (.int i0), .val (.int i1), .val (.int i2), .val (.int i3), .val (.int i4), .val (.int (1 : Int32)), .val (.int (0 : Int32)), .val (.ref b1009), .val (.ref b1036), .val (.ref r_1062), .val (.double (own_d1 i1)), .second, .val (.double (own_d2 i2)), .second, .val (.ref b1074), .val (.ref b1074), .val (.ref u_1401), .val (.int (2 : Int32)), .val (.int (1 : Int32)), .val (.ref f_1313), .val (.ref r_1313), .unset, .unset, .unset, .unset, .unset, .unset] [(.ref f_1355)])) rfl rfl (hb hby at_289)
          refine own_st st1458 ?_
          show own_Go _ _ _ _ _ (State.setTop _ (mkF _ 292 #[.val (.int i0), .val (.int i1), .val (.int i2), .val (.int i3), .val (.int i4), .val (.int (1 : Int32)), .val (.int (0 : Int32)), .val (.ref b1009), .val (.ref b1036), .val (.ref r_1062), .val (.double (own_d1 i1)), .second, .val (.double (own_d2 i2)), .second, .val (.ref b1074), .val (.ref b1074), .val (.ref u_1401), .val (.int (2 : Int32)), .val (.int (1 : Int32)), .val (.ref f_1313), .val (.ref r_1313), .unset, .unset, .unset, .unset, .unset, .unset] [(.ref f_1355)]))
          refine own_astore X1458 hx 294 rfl (hb hby at_292) rfl #[.val (.int i0), .val (.int i1), .val (.int i2), .val (.int i3), .val (.int i4), .val (.int (1 : Int32)), .val (.int (0 : Int32)), .val (.ref b1009), .val (.ref b1036), .val (.ref r_1062), .val (.double (own_d1 i1)), .second, .val (.double (own_d2 i2)), .second, .val (.ref b1074), .val (.ref b1074), .val (.ref u_1401), .val (.int (2 : Int32)), .val (.int (1 : Int32)), .val (.ref f_1355), .val (.ref r_1313), .unset, .unset, .unset, .unset, .unset, .unset] rfl ?_
          refine own_aload X1458 hx 296 rfl (hb hby at_294) rfl rfl ?_
          refine own_aload X1458 hx 298 rfl (hb hby at_296) rfl rfl ?_
          refine own_virtual X1458 hx hZ (y := (⟨"com/example/measured_reasoner/measuredreasoner/Summary$Field", "name", "()Ljava/lang/String;"⟩ : MethodName)) (z := (⟨"com/example/measured_reasoner/measuredreasoner/Summary$Field", "name", "()Ljava/lang/String;"⟩ : MethodName)) hown (own_hw hw 248 rfl) (own_hw hw 249 rfl) (own_hw hw 251 rfl) (own_hw hw 250 rfl) rfl (a := f_1355) f1430 (by decide) (rm_fname l Z a0 hw [] f_1355 b1036 T1401.heap n0 z1439 f1431) (own_hw hw 252 rfl) (own_hw hw 86 rfl) (by decide) e1458 (by rw [hml]; rfl) [] 1 (by decide) (Nat.le_of_eq rfl) (by decide) (by decide) (lenOf own_pd28 rfl) rfl rfl 301 rfl (hb hby at_298) fun v1459 T1459 Lc1459 X1459 hQ1459 => ?_
          obtain ⟨rfl, Nq1459, e1459⟩ := hQ1459
          have N1460 := Fr.app N1457 Nq1459
          show own_Go _ _ _ _ _ (State.setTop _ (mkF _ 301 _ [(.ref b1036), (.ref b1036)]))
          refine own_virtual X1459 hx hZ (y := (⟨"java/lang/String", "equals", "(Ljava/lang/Object;)Z"⟩ : MethodName)) (z := (⟨"java/lang/String", "equals", "(Ljava/lang/Object;)Z"⟩ : MethodName)) hown (own_hw hw 253 rfl) (own_hw hw 254 rfl) (own_hw hw 256 rfl) (own_hw hw 255 rfl) rfl (a := b1036) f1420 (by decide) (rm_eq l Z a0 hw [] b1036 T1401.heap n0 z1439 ) (own_hw hw 257 rfl) (own_hw hw 3 rfl) (by decide) e1459 (by rw [hml]; rfl) [(.ref b1036)] 0 (by decide) (Nat.le_of_eq rfl) (by decide) (by decide) (lenOf own_pd22 rfl) rfl rfl 304 rfl (hb hby at_301) fun v1461 T1461 Lc1461 X1461 hQ1461 => ?_
          obtain ⟨rfl, Nq1461, e1461⟩ := hQ1461
          have N1462 := Fr.app N1460 Nq1461
          show own_Go _ _ _ _ _ (State.setTop _ (mkF _ 304 _ [(.int (1 : Int32))]))
          refine own_ifYes X1461 hx 309 (hb hby at_304) (by decide) (by decide) rfl ?_
          refine own_aload X1461 hx 311 rfl (hb hby at_309) rfl rfl ?_
          refine own_virtual X1461 hx hZ (y := (⟨"com/example/measured_reasoner/measuredreasoner/Summary$Field", "value", "()Ljava/lang/Number;"⟩ : MethodName)) (z := (⟨"com/example/measured_reasoner/measuredreasoner/Summary$Field", "value", "()Ljava/lang/Number;"⟩ : MethodName)) hown (own_hw hw 258 rfl) (own_hw hw 259 rfl) (own_hw hw 261 rfl) (own_hw hw 260 rfl) rfl (a := f_1355) f1430 (by decide) (rm_fval l Z a0 hw [] f_1355 r_1355 T1401.heap n0 z1439 f1432) (own_hw hw 262 rfl) (own_hw hw 86 rfl) (by decide) e1461 (by rw [hml]; rfl) [] 0 (by decide) (Nat.le_of_eq rfl) (by decide) (by decide) (lenOf own_pd29 rfl) rfl rfl 314 rfl (hb hby at_311) fun v1463 T1463 Lc1463 X1463 hQ1463 => ?_
          obtain ⟨rfl, Nq1463, e1463⟩ := hQ1463
          have N1464 := Fr.app N1462 Nq1463
          show own_Go _ _ _ _ _ (State.setTop _ (mkF _ 314 _ [(.ref r_1355)]))
          refine own_astore X1463 hx 316 rfl (hb hby at_314) rfl #[.val (.int i0), .val (.int i1), .val (.int i2), .val (.int i3), .val (.int i4), .val (.int (1 : Int32)), .val (.int (0 : Int32)), .val (.ref b1009), .val (.ref b1036), .val (.ref r_1062), .val (.double (own_d1 i1)), .second, .val (.double (own_d2 i2)), .second, .val (.ref b1074), .val (.ref b1074), .val (.ref u_1401), .val (.int (2 : Int32)), .val (.int (1 : Int32)), .val (.ref f_1355), .val (.ref r_1355), .unset, .unset, .unset, .unset, .unset, .unset] rfl ?_
          refine own_aload X1463 hx 318 rfl (hb hby at_316) rfl rfl ?_
          obtain ⟨T1465, X1465, e1465, st1465⟩ := instY X1463 hx hZ hown (own_hw hw 263 rfl) e1463 (Ins.self f1433) (g := (mkF m 318 #[.val (.int i0), .val (.int i1), .val (.int i2), .val (.int i3), .val (.int i4), .val (.int (1 : Int32)), .val (.int (0 : Int32)), .val (.ref b1009), .val (.ref b1036), .val (.ref r_1062), .val (.double (own_d1 i1)), .second, .val (.double (own_d2 i2)), .second, .val (.ref b1074), .val (.ref b1074), .val (.ref u_1401), .val (.int (2 : Int32)), .val (.int (1 : Int32)), .val (.ref f_1355), .val (.ref r_1355), .unset, .unset, .unset, .unset, .unset, .unset] [(.ref r_1355)])) rfl rfl (hb hby at_318)
          refine own_st st1465 ?_
          show own_Go _ _ _ _ _ (State.setTop _ (mkF _ 321 #[.val (.int i0), .val (.int i1), .val (.int i2), .val (.int i3), .val (.int i4), .val (.int (1 : Int32)), .val (.int (0 : Int32)), .val (.ref b1009), .val (.ref b1036), .val (.ref r_1062), .val (.double (own_d1 i1)), .second, .val (.double (own_d2 i2)), .second, .val (.ref b1074), .val (.ref b1074), .val (.ref u_1401), .val (.int (2 : Int32)), .val (.int (1 : Int32)), .val (.ref f_1355), .val (.ref r_1355), .unset, .unset, .unset, .unset, .unset, .unset] [(.int (1 : Int32))]))
          refine own_ifYes X1465 hx 326 (hb hby at_321) (by decide) (by decide) rfl ?_
          refine own_aload X1465 hx 328 rfl (hb hby at_326) rfl rfl ?_
          obtain ⟨T1466, X1466, e1466, st1466⟩ := castY X1465 hx hZ hown (own_hw hw 263 rfl) e1465 (Ins.self f1433) (g := (mkF m 328 #[.val (.int i0), .val (.int i1), .val (.int i2), .val (.int i3), .val (.int i4), .val (.int (1 : Int32)), .val (.int (0 : Int32)), .val (.ref b1009), .val (.ref b1036), .val (.ref r_1062), .val (.double (own_d1 i1)), .second, .val (.double (own_d2 i2)), .second, .val (.ref b1074), .val (.ref b1074), .val (.ref u_1401), .val (.int (2 : Int32)), .val (.int (1 : Int32)), .val (.ref f_1355), .val (.ref r_1355), .unset, .unset, .unset, .unset, .unset, .unset] [(.ref r_1355)])) rfl rfl (hb hby at_328)
          refine own_st st1466 ?_
          show own_Go _ _ _ _ _ (State.setTop _ (mkF _ 331 #[.val (.int i0), .val (.int i1), .val (.int i2), .val (.int i3), .val (.int i4), .val (.int (1 : Int32)), .val (.int (0 : Int32)), .val (.ref b1009), .val (.ref b1036), .val (.ref r_1062), .val (.double (own_d1 i1)), .second, .val (.double (own_d2 i2)), .second, .val (.ref b1074), .val (.ref b1074), .val (.ref u_1401), .val (.int (2 : Int32)), .val (.int (1 : Int32)), .val (.ref f_1355), .val (.ref r_1355), .unset, .unset, .unset, .unset, .unset, .unset] [(.ref r_1355)]))
          refine own_virtual X1466 hx hZ (y := (⟨"java/lang/Double", "doubleValue", "()D"⟩ : MethodName)) (z := (⟨"java/lang/Double", "doubleValue", "()D"⟩ : MethodName)) hown (own_hw hw 264 rfl) (own_hw hw 265 rfl) (own_hw hw 267 rfl) (own_hw hw 266 rfl) rfl (a := r_1355) f1433 (by decide) (rm_dval l Z a0 hw [] r_1355 (own_d1 i1) T1401.heap n0 z1439 f1434) (own_hw hw 268 rfl) (own_hw hw 89 rfl) (by decide) e1466 (by rw [hml]; rfl) [] 0 (by decide) (Nat.le_of_eq rfl) (by decide) (by decide) (lenOf own_pd30 rfl) rfl rfl 334 rfl (hb hby at_331) fun v1467 T1467 Lc1467 X1467 hQ1467 => ?_
          obtain ⟨rfl, Nq1467, e1467⟩ := hQ1467
          have N1468 := Fr.app N1464 Nq1467
          show own_Go _ _ _ _ _ (State.setTop _ (mkF _ 334 _ [(.double (own_d1 i1))]))
          refine own_dstore X1467 hx 336 rfl (hb hby at_334) #[.val (.int i0), .val (.int i1), .val (.int i2), .val (.int i3), .val (.int i4), .val (.int (1 : Int32)), .val (.int (0 : Int32)), .val (.ref b1009), .val (.ref b1036), .val (.ref r_1062), .val (.double (own_d1 i1)), .second, .val (.double (own_d2 i2)), .second, .val (.ref b1074), .val (.ref b1074), .val (.ref u_1401), .val (.int (2 : Int32)), .val (.int (1 : Int32)), .val (.ref f_1355), .val (.ref r_1355), .val (.double (own_d1 i1)), .second, .unset, .unset, .unset, .unset] rfl ?_
          refine own_dload X1467 hx 338 rfl (hb hby at_336) rfl ?_
          refine own_dload X1467 hx 340 rfl (hb hby at_338) rfl ?_
          refine own_dcmp X1467 hx 341 rfl (hb hby at_340) (0 : Int32) (own_self (own_d1n i1)) ?_
          refine own_ifYes X1467 hx 346 (hb hby at_341) (by decide) (by decide) rfl ?_
          refine own_iload X1467 hx 348 rfl (hb hby at_346) rfl ?_
          refine own_ifYes X1467 hx 419 (hb hby at_348) (by decide) (by decide) rfl ?_
          refine own_iconst X1467 hx 420 rfl (hb hby at_419) (1 : Int32) rfl ?_
          refine own_ret X1467 (some (.int (1 : Int32))) (fun h => by rw [Bd.returns] at h; cases h) Bd.notSynchronized (by decide) (by decide) ?_ (fun fs hr => retN X1467 hx (t := .boolean) Bd.returns (by simp) (hb hby at_420) hr)
          show Q_rm0 Z i0 i1 i2 i3 i4 cs aE kE mA mL mR h0 n0 _ T1467.heap _
          rw [e1467]
          exact ⟨rfl, N1468⟩
        ·
          show own_Go _ _ _ _ _ (State.setTop _ (mkF _ 141 #[.val (.int i0), .val (.int i1), .val (.int i2), .val (.int i3), .val (.int i4), .val (.int (1 : Int32)), .val (.int (1 : Int32)), .val (.ref b1009), .val (.ref b1036), .val (.ref r_1062), .val (.double (own_d1 i1)), .second, .val (.double (own_d2 i2)), .second, .val (.ref b1074), .val (.ref b1074), .unset, .unset, .unset, .unset, .unset, .unset, .unset, .unset, .unset, .unset, .unset] []))
          refine own_iload X1355 hx 143 rfl (hb hby at_141) rfl ?_
          refine own_ifNo X1355 hx 146 rfl (hb hby at_143) (by decide) ?_
          refine own_aload X1355 hx 148 rfl (hb hby at_146) rfl rfl ?_
          refine own_aload X1355 hx 150 rfl (hb hby at_148) rfl rfl ?_
          refine own_dload X1355 hx 152 rfl (hb hby at_150) rfl ?_
          refine own_virtual X1355 hx hZ (y := (⟨"com/example/measured_reasoner/measuredreasoner/Summary", "mean", "(Ljava/lang/String;D)Lcom/example/measured_reasoner/measuredreasoner/Summary;"⟩ : MethodName)) (z := (⟨"com/example/measured_reasoner/measuredreasoner/Summary", "mean", "(Ljava/lang/String;D)Lcom/example/measured_reasoner/measuredreasoner/Summary;"⟩ : MethodName)) hown (own_hw hw 79 rfl) (own_hw hw 80 rfl) (own_hw hw 82 rfl) (own_hw hw 81 rfl) rfl (a := b1074) f1387 (by decide) (rm_mean2 l Z a0 hw [] b1074 r_1062 (own_d2 i2) li_1087 (((0 : Int32) + (1 : Int32)) + (1 : Int32)) b_1313 kb_1313 f_1313 f_1355 T1355.heap n0 z1399 f1388 f1361 f1362 f1363 f1364 f1365 f1324 ge1341 ne1340 ge1099) (own_hw hw 83 rfl) (own_hw hw 48 rfl) (by decide) rfl (by rw [hml]; rfl) [(.ref r_1062), (.double (own_d2 i2))] 0 (by decide) (Nat.le_of_eq rfl) (by decide) (by decide) (lenOf own_pd26 rfl) rfl rfl 155 rfl (hb hby at_152) fun v1469 T1469 Lc1469 X1469 hQ1469 => ?_
          obtain ⟨f_1469, r_1469, rfl, Nq1469, Kq1469, sd0_1469, sd1_1469, f1470, f1471, f1472, f1473, f1474, f1475, f1476, f1477, f1478, f1479⟩ := hQ1469
          have N1480 := Fr.app N1366 Nq1469
          have ne1481 : aE ≠ f_1469 := Nat.ne_of_lt (Nat.lt_of_lt_of_le f1384.lt sd0_1469)
          have ne1482 : b1036 ≠ f_1469 := Nat.ne_of_lt (Nat.lt_of_lt_of_le f1385.lt sd0_1469)
          have ne1483 : r_1062 ≠ f_1469 := Nat.ne_of_lt (Nat.lt_of_lt_of_le f1386.lt sd0_1469)
          have ne1484 : b1074 ≠ f_1469 := Nat.ne_of_lt (Nat.lt_of_lt_of_le f1387.lt sd0_1469)
          have ne1485 : li_1087 ≠ f_1469 := Nat.ne_of_lt (Nat.lt_of_lt_of_le f1361.lt sd0_1469)
          have ne1486 : f_1313 ≠ f_1469 := Nat.ne_of_lt (Nat.lt_of_lt_of_le f1390.lt sd0_1469)
          have ne1487 : r_1313 ≠ f_1469 := Nat.ne_of_lt (Nat.lt_of_lt_of_le f1393.lt sd0_1469)
          have ne1488 : f_1355 ≠ f_1469 := Nat.ne_of_lt (Nat.lt_of_lt_of_le f1356.lt sd0_1469)
          have ne1489 : r_1355 ≠ f_1469 := Nat.ne_of_lt (Nat.lt_of_lt_of_le f1359.lt sd0_1469)
          have ne1490 : b_1313 ≠ f_1469 := Nat.ne_of_lt (Nat.lt_of_lt_of_le f1365.lt sd0_1469)
          have ge1491 : n0 ≤ f_1469 := Nat.le_trans z1399 sd0_1469
          have ne1492 : b1036 ≠ r_1469 := own_on sd1_1469 ge1039 f1385.lt
          have ne1493 : r_1062 ≠ r_1469 := own_on sd1_1469 ge1067 f1386.lt
          have ne1494 : b1074 ≠ r_1469 := own_on sd1_1469 ge1078 f1387.lt
          have ne1495 : li_1087 ≠ r_1469 := own_on sd1_1469 ge1099 f1361.lt
          have ne1496 : f_1313 ≠ r_1469 := own_on sd1_1469 ge1331 f1390.lt
          have ne1497 : f_1355 ≠ r_1469 := own_on sd1_1469 ge1375 f1356.lt
          have ne1498 : b_1313 ≠ r_1469 := own_on sd1_1469 ge1341 f1365.lt
          have f1499 := own_staKeep f1382 Kq1469 (nsS f1361.nostat (nsS f1365.nostat ns0))
          have f1500 := own_staKeep f1383 Kq1469 (nsS f1361.nostat (nsS f1365.nostat ns0))
          have f1501 := f1384.keep Kq1469 (ninS ne1095 (ninS ne1336 nin0))
          have f1502 := f1385.keep Kq1469
          have f1503 := f1386.keep Kq1469
          have f1504 := f1387.keep Kq1469
          have f1505 := f1388.keep Kq1469 (ninS ne1098 (ninS ne1339 nin0))
          have f1506 := f1361.keep Kq1469
          have f1507 := f1390.keep Kq1469
          have f1508 := f1391.keep Kq1469 (ninS (Ne.symm ne1330) (ninS sd3_1313 nin0))
          have f1509 := f1392.keep Kq1469 (ninS (Ne.symm ne1330) (ninS sd3_1313 nin0))
          have f1510 := f1393.keep Kq1469
          have f1511 := f1394.keep Kq1469 (ninS (Ne.symm ne1335) (ninS sd4_1313 nin0))
          have f1512 := f1356.keep Kq1469
          have f1513 := f1357.keep Kq1469 (ninS (Ne.symm ne1371) (ninS (Ne.symm ne1374) nin0))
          have f1514 := f1358.keep Kq1469 (ninS (Ne.symm ne1371) (ninS (Ne.symm ne1374) nin0))
          have f1515 := f1359.keep Kq1469
          have f1516 := f1360.keep Kq1469 (ninS (Ne.symm ne1379) (ninS (Ne.symm ne1381) nin0))
          have z1521 := Nat.le_trans z1399 Kq1469.1
          have f1522 := f1400.keep Kq1469 (allS ge1099 (allS ge1341 all0)) (nsS f1361.nostat (nsS f1365.nostat ns0))
          show own_Go _ _ _ _ _ (State.setTop _ (mkF _ 155 _ [(.ref b1074)]))
          refine own_pop X1469 hx 156 rfl (hb hby at_155) rfl ?_
          refine own_aload X1469 hx 158 rfl (hb hby at_156) rfl rfl ?_
          refine own_virtual X1469 hx hZ (y := (⟨"com/example/measured_reasoner/measuredreasoner/Summary", "fields", "()Ljava/util/List;"⟩ : MethodName)) (z := (⟨"com/example/measured_reasoner/measuredreasoner/Summary", "fields", "()Ljava/util/List;"⟩ : MethodName)) hown (own_hw hw 154 rfl) (own_hw hw 155 rfl) (own_hw hw 157 rfl) (own_hw hw 156 rfl) rfl (a := b1074) f1504 (by decide) (rm_fs l Z a0 hw [] b1074 li_1087 mA mL mR T1469.heap n0 z1521 f1505 f1475 M1 M2 M3 nAL nAR) (own_hw hw 158 rfl) (own_hw hw 48 rfl) (by decide) rfl (by rw [hml]; rfl) [] 0 (by decide) (Nat.le_of_eq rfl) (by decide) (by decide) (lenOf own_pd27 rfl) rfl rfl 161 rfl (hb hby at_158) fun v1523 T1523 Lc1523 X1523 hQ1523 => ?_
          obtain ⟨u_1523, rfl, Nq1523, Kq1523, sd0_1523, f1524, f1525, f1526⟩ := hQ1523
          have N1527 := Fr.app N1480 Nq1523
          have ne1528 : aE ≠ u_1523 := Nat.ne_of_lt (Nat.lt_of_lt_of_le f1501.lt sd0_1523)
          have ne1529 : b1036 ≠ u_1523 := Nat.ne_of_lt (Nat.lt_of_lt_of_le f1502.lt sd0_1523)
          have ne1530 : r_1062 ≠ u_1523 := Nat.ne_of_lt (Nat.lt_of_lt_of_le f1503.lt sd0_1523)
          have ne1531 : b1074 ≠ u_1523 := Nat.ne_of_lt (Nat.lt_of_lt_of_le f1504.lt sd0_1523)
          have ne1532 : li_1087 ≠ u_1523 := Nat.ne_of_lt (Nat.lt_of_lt_of_le f1475.lt sd0_1523)
          have ne1533 : f_1313 ≠ u_1523 := Nat.ne_of_lt (Nat.lt_of_lt_of_le f1507.lt sd0_1523)
          have ne1534 : r_1313 ≠ u_1523 := Nat.ne_of_lt (Nat.lt_of_lt_of_le f1510.lt sd0_1523)
          have ne1535 : f_1355 ≠ u_1523 := Nat.ne_of_lt (Nat.lt_of_lt_of_le f1512.lt sd0_1523)
          have ne1536 : r_1355 ≠ u_1523 := Nat.ne_of_lt (Nat.lt_of_lt_of_le f1515.lt sd0_1523)
          have ne1537 : f_1469 ≠ u_1523 := Nat.ne_of_lt (Nat.lt_of_lt_of_le f1470.lt sd0_1523)
          have ne1538 : r_1469 ≠ u_1523 := Nat.ne_of_lt (Nat.lt_of_lt_of_le f1473.lt sd0_1523)
          have ne1539 : b_1313 ≠ u_1523 := Nat.ne_of_lt (Nat.lt_of_lt_of_le f1479.lt sd0_1523)
          have ge1540 : n0 ≤ u_1523 := Nat.le_trans z1521 sd0_1523
          have f1541 := own_staKeep f1499 Kq1523 ns0
          have f1542 := own_staKeep f1500 Kq1523 ns0
          have f1543 := f1501.keep Kq1523 nin0
          have f1544 := f1502.keep Kq1523
          have f1545 := f1503.keep Kq1523
          have f1546 := f1504.keep Kq1523
          have f1547 := f1505.keep Kq1523 nin0
          have f1548 := f1475.keep Kq1523
          have f1549 := f1507.keep Kq1523
          have f1550 := f1508.keep Kq1523 nin0
          have f1551 := f1509.keep Kq1523 nin0
          have f1552 := f1510.keep Kq1523
          have f1553 := f1511.keep Kq1523 nin0
          have f1554 := f1512.keep Kq1523
          have f1555 := f1513.keep Kq1523 nin0
          have f1556 := f1514.keep Kq1523 nin0
          have f1557 := f1515.keep Kq1523
          have f1558 := f1516.keep Kq1523 nin0
          have f1559 := f1470.keep Kq1523
          have f1560 := f1471.keep Kq1523 nin0
          have f1561 := f1472.keep Kq1523 nin0
          have f1562 := f1473.keep Kq1523
          have f1563 := f1474.keep Kq1523 nin0
          have f1564 := f1476.keep Kq1523 nin0
          have f1565 := f1477.keep Kq1523 nin0
          have f1566 := f1478.keep Kq1523 nin0
          have f1567 := f1479.keep Kq1523 nin0
          have z1568 := Nat.le_trans z1521 Kq1523.1
          have f1569 := f1522.keep Kq1523 all0 ns0
          show own_Go _ _ _ _ _ (State.setTop _ (mkF _ 161 _ [(.ref u_1523)]))
          refine own_astore X1523 hx 163 rfl (hb hby at_161) rfl #[.val (.int i0), .val (.int i1), .val (.int i2), .val (.int i3), .val (.int i4), .val (.int (1 : Int32)), .val (.int (1 : Int32)), .val (.ref b1009), .val (.ref b1036), .val (.ref r_1062), .val (.double (own_d1 i1)), .second, .val (.double (own_d2 i2)), .second, .val (.ref b1074), .val (.ref b1074), .val (.ref u_1523), .unset, .unset, .unset, .unset, .unset, .unset, .unset, .unset, .unset, .unset] rfl ?_
          refine own_iconst X1523 hx 164 rfl (hb hby at_163) (1 : Int32) rfl ?_
          refine own_iload X1523 hx 166 rfl (hb hby at_164) rfl ?_
          refine own_ifNo X1523 hx 169 rfl (hb hby at_166) (by decide) ?_
          refine own_iconst X1523 hx 170 rfl (hb hby at_169) (1 : Int32) rfl ?_
          refine own_goto X1523 hx 174 (hb hby at_170) (by decide) rfl ?_
          refine own_iadd X1523 hx 175 rfl (hb hby at_174) (2 : Int32) rfl ?_
          refine own_iload X1523 hx 177 rfl (hb hby at_175) rfl ?_
          refine own_ifNo X1523 hx 180 rfl (hb hby at_177) (by decide) ?_
          refine own_iconst X1523 hx 181 rfl (hb hby at_180) (1 : Int32) rfl ?_
          refine own_goto X1523 hx 185 (hb hby at_181) (by decide) rfl ?_
          refine own_iadd X1523 hx 186 rfl (hb hby at_185) (3 : Int32) rfl ?_
          refine own_istore X1523 hx 188 rfl (hb hby at_186) #[.val (.int i0), .val (.int i1), .val (.int i2), .val (.int i3), .val (.int i4), .val (.int (1 : Int32)), .val (.int (1 : Int32)), .val (.ref b1009), .val (.ref b1036), .val (.ref r_1062), .val (.double (own_d1 i1)), .second, .val (.double (own_d2 i2)), .second, .val (.ref b1074), .val (.ref b1074), .val (.ref u_1523), .val (.int (3 : Int32)), .unset, .unset, .unset, .unset, .unset, .unset, .unset, .unset, .unset] rfl ?_
          refine own_aload X1523 hx 190 rfl (hb hby at_188) rfl rfl ?_
          refine own_iface X1523 hx hZ (C := "java/util/Collections$UnmodifiableRandomAccessList") (xi := (⟨"java/util/List", "size", "()I"⟩ : MethodName)) (y := (⟨"java/util/Collections$UnmodifiableCollection", "size", "()I"⟩ : MethodName)) hown (own_hw hw 201 rfl) (own_hw hw 202 rfl) (own_hw hw 203 rfl) rfl (own_hw hw 204 rfl) (own_hw hw 205 rfl) (own_hw hw 206 rfl) (own_hw hw 207 rfl) (own_hw hw 208 rfl) (a := u_1523) f1524 (by decide) (rm_usize l Z a0 hw [] u_1523 li_1087 (3 : Int32) T1523.heap n0 z1568 f1525 f1548 f1566) (own_hw hw 209 rfl) (own_hw hw 194 rfl) (by decide) rfl (by rw [hml]; rfl) [] 0 (by decide) (Nat.le_of_eq rfl) (by decide) (by decide) (lenOf own_pd10 rfl) rfl rfl 195 rfl (hb hby at_190) fun v1570 T1570 Lc1570 X1570 hQ1570 => ?_
          obtain ⟨rfl, Nq1570, e1570⟩ := hQ1570
          have N1571 := Fr.app N1527 Nq1570
          show own_Go _ _ _ _ _ (State.setTop _ (mkF _ 195 _ [(.int (3 : Int32))]))
          refine own_iload X1570 hx 197 rfl (hb hby at_195) rfl ?_
          refine own_icmpYes X1570 hx 202 (hb hby at_197) (by decide) (by decide) rfl ?_
          refine own_iload X1570 hx 204 rfl (hb hby at_202) rfl ?_
          refine own_ifNo X1570 hx 207 rfl (hb hby at_204) (by decide) ?_
          refine own_iconst X1570 hx 208 rfl (hb hby at_207) (1 : Int32) rfl ?_
          refine own_goto X1570 hx 212 (hb hby at_208) (by decide) rfl ?_
          refine own_istore X1570 hx 214 rfl (hb hby at_212) #[.val (.int i0), .val (.int i1), .val (.int i2), .val (.int i3), .val (.int i4), .val (.int (1 : Int32)), .val (.int (1 : Int32)), .val (.ref b1009), .val (.ref b1036), .val (.ref r_1062), .val (.double (own_d1 i1)), .second, .val (.double (own_d2 i2)), .second, .val (.ref b1074), .val (.ref b1074), .val (.ref u_1523), .val (.int (3 : Int32)), .val (.int (1 : Int32)), .unset, .unset, .unset, .unset, .unset, .unset, .unset, .unset] rfl ?_
          refine own_iload X1570 hx 216 rfl (hb hby at_214) rfl ?_
          refine own_ifNo X1570 hx 219 rfl (hb hby at_216) (by decide) ?_
          refine own_aload X1570 hx 221 rfl (hb hby at_219) rfl rfl ?_
          refine own_iconst X1570 hx 222 rfl (hb hby at_221) (0 : Int32) rfl ?_
          refine own_iface X1570 hx hZ (C := "java/util/Collections$UnmodifiableRandomAccessList") (xi := (⟨"java/util/List", "get", "(I)Ljava/lang/Object;"⟩ : MethodName)) (y := (⟨"java/util/Collections$UnmodifiableList", "get", "(I)Ljava/lang/Object;"⟩ : MethodName)) hown (own_hw hw 219 rfl) (own_hw hw 220 rfl) (own_hw hw 221 rfl) rfl (own_hw hw 222 rfl) (own_hw hw 223 rfl) (own_hw hw 224 rfl) (own_hw hw 225 rfl) (own_hw hw 208 rfl) (a := u_1523) f1524 (by decide) (rm_uget l Z a0 hw [] u_1523 (0 : Int32) li_1087 (3 : Int32) b_1313 kb_1313 [(.ref f_1313), (.ref f_1355), (.ref f_1469), .null, .null, .null, .null, .null, .null, .null] f_1313 T1523.heap n0 z1568 f1526 f1548 f1565 f1566 f1567 (by decide) (by decide) ⟨by decide, by decide⟩ rfl) (own_hw hw 226 rfl) (own_hw hw 188 rfl) (by decide) e1570 (by rw [hml]; rfl) [(.int (0 : Int32))] 0 (by decide) (Nat.le_of_eq rfl) (by decide) (by decide) (lenOf own_pd12 rfl) rfl rfl 227 rfl (hb hby at_222) fun v1572 T1572 Lc1572 X1572 hQ1572 => ?_
          obtain ⟨rfl, Nq1572, e1572⟩ := hQ1572
          have N1573 := Fr.app N1571 Nq1572
          show own_Go _ _ _ _ _ (State.setTop _ (mkF _ 227 _ [(.ref f_1313)]))
          obtain ⟨T1574, X1574, e1574, st1574⟩ := castY X1572 hx hZ hown (own_hw hw 246 rfl) e1572 (Ins.self f1549) (g := (mkF m 227 #[.val (.int i0), .val (.int i1), .val (.int i2), .val (.int i3), .val (.int i4), .val (.int (1 : Int32)), .val (.int (1 : Int32)), .val (.ref b1009), .val (.ref b1036), .val (.ref r_1062), .val (.double (own_d1 i1)), .second, .val (.double (own_d2 i2)), .second, .val (.ref b1074), .val (.ref b1074), .val (.ref u_1523), .val (.int (3 : Int32)), .val (.int (1 : Int32)), .unset, .unset, .unset, .unset, .unset, .unset, .unset, .unset] [(.ref f_1313)])) rfl rfl (hb hby at_227)
          refine own_st st1574 ?_
          show own_Go _ _ _ _ _ (State.setTop _ (mkF _ 230 #[.val (.int i0), .val (.int i1), .val (.int i2), .val (.int i3), .val (.int i4), .val (.int (1 : Int32)), .val (.int (1 : Int32)), .val (.ref b1009), .val (.ref b1036), .val (.ref r_1062), .val (.double (own_d1 i1)), .second, .val (.double (own_d2 i2)), .second, .val (.ref b1074), .val (.ref b1074), .val (.ref u_1523), .val (.int (3 : Int32)), .val (.int (1 : Int32)), .unset, .unset, .unset, .unset, .unset, .unset, .unset, .unset] [(.ref f_1313)]))
          refine own_astore X1574 hx 232 rfl (hb hby at_230) rfl #[.val (.int i0), .val (.int i1), .val (.int i2), .val (.int i3), .val (.int i4), .val (.int (1 : Int32)), .val (.int (1 : Int32)), .val (.ref b1009), .val (.ref b1036), .val (.ref r_1062), .val (.double (own_d1 i1)), .second, .val (.double (own_d2 i2)), .second, .val (.ref b1074), .val (.ref b1074), .val (.ref u_1523), .val (.int (3 : Int32)), .val (.int (1 : Int32)), .val (.ref f_1313), .unset, .unset, .unset, .unset, .unset, .unset, .unset] rfl ?_
          refine own_aload X1574 hx 234 rfl (hb hby at_232) rfl rfl ?_
          refine own_aload X1574 hx 236 rfl (hb hby at_234) rfl rfl ?_
          refine own_virtual X1574 hx hZ (y := (⟨"com/example/measured_reasoner/measuredreasoner/Summary$Field", "name", "()Ljava/lang/String;"⟩ : MethodName)) (z := (⟨"com/example/measured_reasoner/measuredreasoner/Summary$Field", "name", "()Ljava/lang/String;"⟩ : MethodName)) hown (own_hw hw 248 rfl) (own_hw hw 249 rfl) (own_hw hw 251 rfl) (own_hw hw 250 rfl) rfl (a := f_1313) f1549 (by decide) (rm_fname l Z a0 hw [] f_1313 r_1062 T1523.heap n0 z1568 f1550) (own_hw hw 252 rfl) (own_hw hw 86 rfl) (by decide) e1574 (by rw [hml]; rfl) [] 1 (by decide) (Nat.le_of_eq rfl) (by decide) (by decide) (lenOf own_pd28 rfl) rfl rfl 239 rfl (hb hby at_236) fun v1575 T1575 Lc1575 X1575 hQ1575 => ?_
          obtain ⟨rfl, Nq1575, e1575⟩ := hQ1575
          have N1576 := Fr.app N1573 Nq1575
          show own_Go _ _ _ _ _ (State.setTop _ (mkF _ 239 _ [(.ref r_1062), (.ref r_1062)]))
          refine own_virtual X1575 hx hZ (y := (⟨"java/lang/String", "equals", "(Ljava/lang/Object;)Z"⟩ : MethodName)) (z := (⟨"java/lang/String", "equals", "(Ljava/lang/Object;)Z"⟩ : MethodName)) hown (own_hw hw 253 rfl) (own_hw hw 254 rfl) (own_hw hw 256 rfl) (own_hw hw 255 rfl) rfl (a := r_1062) f1545 (by decide) (rm_eq l Z a0 hw [] r_1062 T1523.heap n0 z1568 ) (own_hw hw 257 rfl) (own_hw hw 3 rfl) (by decide) e1575 (by rw [hml]; rfl) [(.ref r_1062)] 0 (by decide) (Nat.le_of_eq rfl) (by decide) (by decide) (lenOf own_pd22 rfl) rfl rfl 242 rfl (hb hby at_239) fun v1577 T1577 Lc1577 X1577 hQ1577 => ?_
          obtain ⟨rfl, Nq1577, e1577⟩ := hQ1577
          have N1578 := Fr.app N1576 Nq1577
          show own_Go _ _ _ _ _ (State.setTop _ (mkF _ 242 _ [(.int (1 : Int32))]))
          refine own_ifYes X1577 hx 247 (hb hby at_242) (by decide) (by decide) rfl ?_
          refine own_aload X1577 hx 249 rfl (hb hby at_247) rfl rfl ?_
          refine own_virtual X1577 hx hZ (y := (⟨"com/example/measured_reasoner/measuredreasoner/Summary$Field", "value", "()Ljava/lang/Number;"⟩ : MethodName)) (z := (⟨"com/example/measured_reasoner/measuredreasoner/Summary$Field", "value", "()Ljava/lang/Number;"⟩ : MethodName)) hown (own_hw hw 258 rfl) (own_hw hw 259 rfl) (own_hw hw 261 rfl) (own_hw hw 260 rfl) rfl (a := f_1313) f1549 (by decide) (rm_fval l Z a0 hw [] f_1313 r_1313 T1523.heap n0 z1568 f1551) (own_hw hw 262 rfl) (own_hw hw 86 rfl) (by decide) e1577 (by rw [hml]; rfl) [] 0 (by decide) (Nat.le_of_eq rfl) (by decide) (by decide) (lenOf own_pd29 rfl) rfl rfl 252 rfl (hb hby at_249) fun v1579 T1579 Lc1579 X1579 hQ1579 => ?_
          obtain ⟨rfl, Nq1579, e1579⟩ := hQ1579
          have N1580 := Fr.app N1578 Nq1579
          show own_Go _ _ _ _ _ (State.setTop _ (mkF _ 252 _ [(.ref r_1313)]))
          refine own_astore X1579 hx 254 rfl (hb hby at_252) rfl #[.val (.int i0), .val (.int i1), .val (.int i2), .val (.int i3), .val (.int i4), .val (.int (1 : Int32)), .val (.int (1 : Int32)), .val (.ref b1009), .val (.ref b1036), .val (.ref r_1062), .val (.double (own_d1 i1)), .second, .val (.double (own_d2 i2)), .second, .val (.ref b1074), .val (.ref b1074), .val (.ref u_1523), .val (.int (3 : Int32)), .val (.int (1 : Int32)), .val (.ref f_1313), .val (.ref r_1313), .unset, .unset, .unset, .unset, .unset, .unset] rfl ?_
          refine own_aload X1579 hx 256 rfl (hb hby at_254) rfl rfl ?_
          obtain ⟨T1581, X1581, e1581, st1581⟩ := instY X1579 hx hZ hown (own_hw hw 282 rfl) e1579 (Ins.self f1552) (g := (mkF m 256 #[.val (.int i0), .val (.int i1), .val (.int i2), .val (.int i3), .val (.int i4), .val (.int (1 : Int32)), .val (.int (1 : Int32)), .val (.ref b1009), .val (.ref b1036), .val (.ref r_1062), .val (.double (own_d1 i1)), .second, .val (.double (own_d2 i2)), .second, .val (.ref b1074), .val (.ref b1074), .val (.ref u_1523), .val (.int (3 : Int32)), .val (.int (1 : Int32)), .val (.ref f_1313), .val (.ref r_1313), .unset, .unset, .unset, .unset, .unset, .unset] [(.ref r_1313)])) rfl rfl (hb hby at_256)
          refine own_st st1581 ?_
          show own_Go _ _ _ _ _ (State.setTop _ (mkF _ 259 #[.val (.int i0), .val (.int i1), .val (.int i2), .val (.int i3), .val (.int i4), .val (.int (1 : Int32)), .val (.int (1 : Int32)), .val (.ref b1009), .val (.ref b1036), .val (.ref r_1062), .val (.double (own_d1 i1)), .second, .val (.double (own_d2 i2)), .second, .val (.ref b1074), .val (.ref b1074), .val (.ref u_1523), .val (.int (3 : Int32)), .val (.int (1 : Int32)), .val (.ref f_1313), .val (.ref r_1313), .unset, .unset, .unset, .unset, .unset, .unset] [(.int (1 : Int32))]))
          refine own_ifYes X1581 hx 264 (hb hby at_259) (by decide) (by decide) rfl ?_
          refine own_aload X1581 hx 266 rfl (hb hby at_264) rfl rfl ?_
          obtain ⟨T1582, X1582, e1582, st1582⟩ := castY X1581 hx hZ hown (own_hw hw 282 rfl) e1581 (Ins.self f1552) (g := (mkF m 266 #[.val (.int i0), .val (.int i1), .val (.int i2), .val (.int i3), .val (.int i4), .val (.int (1 : Int32)), .val (.int (1 : Int32)), .val (.ref b1009), .val (.ref b1036), .val (.ref r_1062), .val (.double (own_d1 i1)), .second, .val (.double (own_d2 i2)), .second, .val (.ref b1074), .val (.ref b1074), .val (.ref u_1523), .val (.int (3 : Int32)), .val (.int (1 : Int32)), .val (.ref f_1313), .val (.ref r_1313), .unset, .unset, .unset, .unset, .unset, .unset] [(.ref r_1313)])) rfl rfl (hb hby at_266)
          refine own_st st1582 ?_
          show own_Go _ _ _ _ _ (State.setTop _ (mkF _ 269 #[.val (.int i0), .val (.int i1), .val (.int i2), .val (.int i3), .val (.int i4), .val (.int (1 : Int32)), .val (.int (1 : Int32)), .val (.ref b1009), .val (.ref b1036), .val (.ref r_1062), .val (.double (own_d1 i1)), .second, .val (.double (own_d2 i2)), .second, .val (.ref b1074), .val (.ref b1074), .val (.ref u_1523), .val (.int (3 : Int32)), .val (.int (1 : Int32)), .val (.ref f_1313), .val (.ref r_1313), .unset, .unset, .unset, .unset, .unset, .unset] [(.ref r_1313)]))
          refine own_virtual X1582 hx hZ (y := (⟨"java/lang/Long", "longValue", "()J"⟩ : MethodName)) (z := (⟨"java/lang/Long", "longValue", "()J"⟩ : MethodName)) hown (own_hw hw 284 rfl) (own_hw hw 285 rfl) (own_hw hw 287 rfl) (own_hw hw 286 rfl) rfl (a := r_1313) f1552 (by decide) (rm_lval l Z a0 hw [] r_1313 (i0.toInt64) T1523.heap n0 z1568 f1553) (own_hw hw 288 rfl) (own_hw hw 276 rfl) (by decide) e1582 (by rw [hml]; rfl) [] 0 (by decide) (Nat.le_of_eq rfl) (by decide) (by decide) (lenOf own_pd32 rfl) rfl rfl 272 rfl (hb hby at_269) fun v1583 T1583 Lc1583 X1583 hQ1583 => ?_
          obtain ⟨rfl, Nq1583, e1583⟩ := hQ1583
          have N1584 := Fr.app N1580 Nq1583
          show own_Go _ _ _ _ _ (State.setTop _ (mkF _ 272 _ [(.long (i0.toInt64))]))
          refine own_iloadN X1583 hx 273 rfl (hb hby at_272) rfl ?_
          refine own_i2l X1583 hx 274 rfl (hb hby at_273) _ rfl ?_
          refine own_lcmp X1583 hx 275 rfl (hb hby at_274) (0 : Int32) (own_lc _) ?_
          refine own_ifYes X1583 hx 280 (hb hby at_275) (by decide) (by decide) rfl ?_
          refine own_aload X1583 hx 282 rfl (hb hby at_280) rfl rfl ?_
          refine own_iload X1583 hx 284 rfl (hb hby at_282) rfl ?_
          refine own_iface X1583 hx hZ (C := "java/util/Collections$UnmodifiableRandomAccessList") (xi := (⟨"java/util/List", "get", "(I)Ljava/lang/Object;"⟩ : MethodName)) (y := (⟨"java/util/Collections$UnmodifiableList", "get", "(I)Ljava/lang/Object;"⟩ : MethodName)) hown (own_hw hw 219 rfl) (own_hw hw 220 rfl) (own_hw hw 221 rfl) rfl (own_hw hw 222 rfl) (own_hw hw 223 rfl) (own_hw hw 224 rfl) (own_hw hw 225 rfl) (own_hw hw 208 rfl) (a := u_1523) f1524 (by decide) (rm_uget l Z a0 hw [] u_1523 (1 : Int32) li_1087 (3 : Int32) b_1313 kb_1313 [(.ref f_1313), (.ref f_1355), (.ref f_1469), .null, .null, .null, .null, .null, .null, .null] f_1355 T1523.heap n0 z1568 f1526 f1548 f1565 f1566 f1567 (by decide) (by decide) ⟨by decide, by decide⟩ rfl) (own_hw hw 226 rfl) (own_hw hw 188 rfl) (by decide) e1583 (by rw [hml]; rfl) [(.int (1 : Int32))] 0 (by decide) (Nat.le_of_eq rfl) (by decide) (by decide) (lenOf own_pd12 rfl) rfl rfl 289 rfl (hb hby at_284) fun v1585 T1585 Lc1585 X1585 hQ1585 => ?_
          obtain ⟨rfl, Nq1585, e1585⟩ := hQ1585
          have N1586 := Fr.app N1584 Nq1585
          show own_Go _ _ _ _ _ (State.setTop _ (mkF _ 289 _ [(.ref f_1355)]))
          obtain ⟨T1587, X1587, e1587, st1587⟩ := castY X1585 hx hZ hown (own_hw hw 246 rfl) e1585 (Ins.self f1554) (g := (mkF m 289 #[.val (.int i0), .val (.int i1), .val (.int i2), .val (.int i3), .val (.int i4), .val (.int (1 : Int32)), .val (.int (1 : Int32)), .val (.ref b1009), .val (.ref b1036), .val (.ref r_1062), .val (.double (own_d1 i1)), .second, .val (.double (own_d2 i2)), .second, .val (.ref b1074), .val (.ref b1074), .val (.ref u_1523), .val (.int (3 : Int32)), .val (.int (1 : Int32)), .val (.ref f_1313), .val (.ref r_1313), .unset, .unset, .unset, .unset, .unset, .unset] [(.ref f_1355)])) rfl rfl (hb hby at_289)
          refine own_st st1587 ?_
          show own_Go _ _ _ _ _ (State.setTop _ (mkF _ 292 #[.val (.int i0), .val (.int i1), .val (.int i2), .val (.int i3), .val (.int i4), .val (.int (1 : Int32)), .val (.int (1 : Int32)), .val (.ref b1009), .val (.ref b1036), .val (.ref r_1062), .val (.double (own_d1 i1)), .second, .val (.double (own_d2 i2)), .second, .val (.ref b1074), .val (.ref b1074), .val (.ref u_1523), .val (.int (3 : Int32)), .val (.int (1 : Int32)), .val (.ref f_1313), .val (.ref r_1313), .unset, .unset, .unset, .unset, .unset, .unset] [(.ref f_1355)]))
          refine own_astore X1587 hx 294 rfl (hb hby at_292) rfl #[.val (.int i0), .val (.int i1), .val (.int i2), .val (.int i3), .val (.int i4), .val (.int (1 : Int32)), .val (.int (1 : Int32)), .val (.ref b1009), .val (.ref b1036), .val (.ref r_1062), .val (.double (own_d1 i1)), .second, .val (.double (own_d2 i2)), .second, .val (.ref b1074), .val (.ref b1074), .val (.ref u_1523), .val (.int (3 : Int32)), .val (.int (1 : Int32)), .val (.ref f_1355), .val (.ref r_1313), .unset, .unset, .unset, .unset, .unset, .unset] rfl ?_
          refine own_aload X1587 hx 296 rfl (hb hby at_294) rfl rfl ?_
          refine own_aload X1587 hx 298 rfl (hb hby at_296) rfl rfl ?_
          refine own_virtual X1587 hx hZ (y := (⟨"com/example/measured_reasoner/measuredreasoner/Summary$Field", "name", "()Ljava/lang/String;"⟩ : MethodName)) (z := (⟨"com/example/measured_reasoner/measuredreasoner/Summary$Field", "name", "()Ljava/lang/String;"⟩ : MethodName)) hown (own_hw hw 248 rfl) (own_hw hw 249 rfl) (own_hw hw 251 rfl) (own_hw hw 250 rfl) rfl (a := f_1355) f1554 (by decide) (rm_fname l Z a0 hw [] f_1355 b1036 T1523.heap n0 z1568 f1555) (own_hw hw 252 rfl) (own_hw hw 86 rfl) (by decide) e1587 (by rw [hml]; rfl) [] 1 (by decide) (Nat.le_of_eq rfl) (by decide) (by decide) (lenOf own_pd28 rfl) rfl rfl 301 rfl (hb hby at_298) fun v1588 T1588 Lc1588 X1588 hQ1588 => ?_
          obtain ⟨rfl, Nq1588, e1588⟩ := hQ1588
          have N1589 := Fr.app N1586 Nq1588
          show own_Go _ _ _ _ _ (State.setTop _ (mkF _ 301 _ [(.ref b1036), (.ref b1036)]))
          refine own_virtual X1588 hx hZ (y := (⟨"java/lang/String", "equals", "(Ljava/lang/Object;)Z"⟩ : MethodName)) (z := (⟨"java/lang/String", "equals", "(Ljava/lang/Object;)Z"⟩ : MethodName)) hown (own_hw hw 253 rfl) (own_hw hw 254 rfl) (own_hw hw 256 rfl) (own_hw hw 255 rfl) rfl (a := b1036) f1544 (by decide) (rm_eq l Z a0 hw [] b1036 T1523.heap n0 z1568 ) (own_hw hw 257 rfl) (own_hw hw 3 rfl) (by decide) e1588 (by rw [hml]; rfl) [(.ref b1036)] 0 (by decide) (Nat.le_of_eq rfl) (by decide) (by decide) (lenOf own_pd22 rfl) rfl rfl 304 rfl (hb hby at_301) fun v1590 T1590 Lc1590 X1590 hQ1590 => ?_
          obtain ⟨rfl, Nq1590, e1590⟩ := hQ1590
          have N1591 := Fr.app N1589 Nq1590
          show own_Go _ _ _ _ _ (State.setTop _ (mkF _ 304 _ [(.int (1 : Int32))]))
          refine own_ifYes X1590 hx 309 (hb hby at_304) (by decide) (by decide) rfl ?_
          refine own_aload X1590 hx 311 rfl (hb hby at_309) rfl rfl ?_
          refine own_virtual X1590 hx hZ (y := (⟨"com/example/measured_reasoner/measuredreasoner/Summary$Field", "value", "()Ljava/lang/Number;"⟩ : MethodName)) (z := (⟨"com/example/measured_reasoner/measuredreasoner/Summary$Field", "value", "()Ljava/lang/Number;"⟩ : MethodName)) hown (own_hw hw 258 rfl) (own_hw hw 259 rfl) (own_hw hw 261 rfl) (own_hw hw 260 rfl) rfl (a := f_1355) f1554 (by decide) (rm_fval l Z a0 hw [] f_1355 r_1355 T1523.heap n0 z1568 f1556) (own_hw hw 262 rfl) (own_hw hw 86 rfl) (by decide) e1590 (by rw [hml]; rfl) [] 0 (by decide) (Nat.le_of_eq rfl) (by decide) (by decide) (lenOf own_pd29 rfl) rfl rfl 314 rfl (hb hby at_311) fun v1592 T1592 Lc1592 X1592 hQ1592 => ?_
          obtain ⟨rfl, Nq1592, e1592⟩ := hQ1592
          have N1593 := Fr.app N1591 Nq1592
          show own_Go _ _ _ _ _ (State.setTop _ (mkF _ 314 _ [(.ref r_1355)]))
          refine own_astore X1592 hx 316 rfl (hb hby at_314) rfl #[.val (.int i0), .val (.int i1), .val (.int i2), .val (.int i3), .val (.int i4), .val (.int (1 : Int32)), .val (.int (1 : Int32)), .val (.ref b1009), .val (.ref b1036), .val (.ref r_1062), .val (.double (own_d1 i1)), .second, .val (.double (own_d2 i2)), .second, .val (.ref b1074), .val (.ref b1074), .val (.ref u_1523), .val (.int (3 : Int32)), .val (.int (1 : Int32)), .val (.ref f_1355), .val (.ref r_1355), .unset, .unset, .unset, .unset, .unset, .unset] rfl ?_
          refine own_aload X1592 hx 318 rfl (hb hby at_316) rfl rfl ?_
          obtain ⟨T1594, X1594, e1594, st1594⟩ := instY X1592 hx hZ hown (own_hw hw 263 rfl) e1592 (Ins.self f1557) (g := (mkF m 318 #[.val (.int i0), .val (.int i1), .val (.int i2), .val (.int i3), .val (.int i4), .val (.int (1 : Int32)), .val (.int (1 : Int32)), .val (.ref b1009), .val (.ref b1036), .val (.ref r_1062), .val (.double (own_d1 i1)), .second, .val (.double (own_d2 i2)), .second, .val (.ref b1074), .val (.ref b1074), .val (.ref u_1523), .val (.int (3 : Int32)), .val (.int (1 : Int32)), .val (.ref f_1355), .val (.ref r_1355), .unset, .unset, .unset, .unset, .unset, .unset] [(.ref r_1355)])) rfl rfl (hb hby at_318)
          refine own_st st1594 ?_
          show own_Go _ _ _ _ _ (State.setTop _ (mkF _ 321 #[.val (.int i0), .val (.int i1), .val (.int i2), .val (.int i3), .val (.int i4), .val (.int (1 : Int32)), .val (.int (1 : Int32)), .val (.ref b1009), .val (.ref b1036), .val (.ref r_1062), .val (.double (own_d1 i1)), .second, .val (.double (own_d2 i2)), .second, .val (.ref b1074), .val (.ref b1074), .val (.ref u_1523), .val (.int (3 : Int32)), .val (.int (1 : Int32)), .val (.ref f_1355), .val (.ref r_1355), .unset, .unset, .unset, .unset, .unset, .unset] [(.int (1 : Int32))]))
          refine own_ifYes X1594 hx 326 (hb hby at_321) (by decide) (by decide) rfl ?_
          refine own_aload X1594 hx 328 rfl (hb hby at_326) rfl rfl ?_
          obtain ⟨T1595, X1595, e1595, st1595⟩ := castY X1594 hx hZ hown (own_hw hw 263 rfl) e1594 (Ins.self f1557) (g := (mkF m 328 #[.val (.int i0), .val (.int i1), .val (.int i2), .val (.int i3), .val (.int i4), .val (.int (1 : Int32)), .val (.int (1 : Int32)), .val (.ref b1009), .val (.ref b1036), .val (.ref r_1062), .val (.double (own_d1 i1)), .second, .val (.double (own_d2 i2)), .second, .val (.ref b1074), .val (.ref b1074), .val (.ref u_1523), .val (.int (3 : Int32)), .val (.int (1 : Int32)), .val (.ref f_1355), .val (.ref r_1355), .unset, .unset, .unset, .unset, .unset, .unset] [(.ref r_1355)])) rfl rfl (hb hby at_328)
          refine own_st st1595 ?_
          show own_Go _ _ _ _ _ (State.setTop _ (mkF _ 331 #[.val (.int i0), .val (.int i1), .val (.int i2), .val (.int i3), .val (.int i4), .val (.int (1 : Int32)), .val (.int (1 : Int32)), .val (.ref b1009), .val (.ref b1036), .val (.ref r_1062), .val (.double (own_d1 i1)), .second, .val (.double (own_d2 i2)), .second, .val (.ref b1074), .val (.ref b1074), .val (.ref u_1523), .val (.int (3 : Int32)), .val (.int (1 : Int32)), .val (.ref f_1355), .val (.ref r_1355), .unset, .unset, .unset, .unset, .unset, .unset] [(.ref r_1355)]))
          refine own_virtual X1595 hx hZ (y := (⟨"java/lang/Double", "doubleValue", "()D"⟩ : MethodName)) (z := (⟨"java/lang/Double", "doubleValue", "()D"⟩ : MethodName)) hown (own_hw hw 264 rfl) (own_hw hw 265 rfl) (own_hw hw 267 rfl) (own_hw hw 266 rfl) rfl (a := r_1355) f1557 (by decide) (rm_dval l Z a0 hw [] r_1355 (own_d1 i1) T1523.heap n0 z1568 f1558) (own_hw hw 268 rfl) (own_hw hw 89 rfl) (by decide) e1595 (by rw [hml]; rfl) [] 0 (by decide) (Nat.le_of_eq rfl) (by decide) (by decide) (lenOf own_pd30 rfl) rfl rfl 334 rfl (hb hby at_331) fun v1596 T1596 Lc1596 X1596 hQ1596 => ?_
          obtain ⟨rfl, Nq1596, e1596⟩ := hQ1596
          have N1597 := Fr.app N1593 Nq1596
          show own_Go _ _ _ _ _ (State.setTop _ (mkF _ 334 _ [(.double (own_d1 i1))]))
          refine own_dstore X1596 hx 336 rfl (hb hby at_334) #[.val (.int i0), .val (.int i1), .val (.int i2), .val (.int i3), .val (.int i4), .val (.int (1 : Int32)), .val (.int (1 : Int32)), .val (.ref b1009), .val (.ref b1036), .val (.ref r_1062), .val (.double (own_d1 i1)), .second, .val (.double (own_d2 i2)), .second, .val (.ref b1074), .val (.ref b1074), .val (.ref u_1523), .val (.int (3 : Int32)), .val (.int (1 : Int32)), .val (.ref f_1355), .val (.ref r_1355), .val (.double (own_d1 i1)), .second, .unset, .unset, .unset, .unset] rfl ?_
          refine own_dload X1596 hx 338 rfl (hb hby at_336) rfl ?_
          refine own_dload X1596 hx 340 rfl (hb hby at_338) rfl ?_
          refine own_dcmp X1596 hx 341 rfl (hb hby at_340) (0 : Int32) (own_self (own_d1n i1)) ?_
          refine own_ifYes X1596 hx 346 (hb hby at_341) (by decide) (by decide) rfl ?_
          refine own_iload X1596 hx 348 rfl (hb hby at_346) rfl ?_
          refine own_ifNo X1596 hx 351 rfl (hb hby at_348) (by decide) ?_
          refine own_aload X1596 hx 353 rfl (hb hby at_351) rfl rfl ?_
          refine own_iload X1596 hx 355 rfl (hb hby at_353) rfl ?_
          refine own_iconst X1596 hx 356 rfl (hb hby at_355) (1 : Int32) rfl ?_
          refine own_iadd X1596 hx 357 rfl (hb hby at_356) (2 : Int32) rfl ?_
          refine own_iface X1596 hx hZ (C := "java/util/Collections$UnmodifiableRandomAccessList") (xi := (⟨"java/util/List", "get", "(I)Ljava/lang/Object;"⟩ : MethodName)) (y := (⟨"java/util/Collections$UnmodifiableList", "get", "(I)Ljava/lang/Object;"⟩ : MethodName)) hown (own_hw hw 219 rfl) (own_hw hw 220 rfl) (own_hw hw 221 rfl) rfl (own_hw hw 222 rfl) (own_hw hw 223 rfl) (own_hw hw 224 rfl) (own_hw hw 225 rfl) (own_hw hw 208 rfl) (a := u_1523) f1524 (by decide) (rm_uget l Z a0 hw [] u_1523 (2 : Int32) li_1087 (3 : Int32) b_1313 kb_1313 [(.ref f_1313), (.ref f_1355), (.ref f_1469), .null, .null, .null, .null, .null, .null, .null] f_1469 T1523.heap n0 z1568 f1526 f1548 f1565 f1566 f1567 (by decide) (by decide) ⟨by decide, by decide⟩ rfl) (own_hw hw 226 rfl) (own_hw hw 188 rfl) (by decide) e1596 (by rw [hml]; rfl) [(.int (2 : Int32))] 0 (by decide) (Nat.le_of_eq rfl) (by decide) (by decide) (lenOf own_pd12 rfl) rfl rfl 362 rfl (hb hby at_357) fun v1598 T1598 Lc1598 X1598 hQ1598 => ?_
          obtain ⟨rfl, Nq1598, e1598⟩ := hQ1598
          have N1599 := Fr.app N1597 Nq1598
          show own_Go _ _ _ _ _ (State.setTop _ (mkF _ 362 _ [(.ref f_1469)]))
          obtain ⟨T1600, X1600, e1600, st1600⟩ := castY X1598 hx hZ hown (own_hw hw 246 rfl) e1598 (Ins.self f1559) (g := (mkF m 362 #[.val (.int i0), .val (.int i1), .val (.int i2), .val (.int i3), .val (.int i4), .val (.int (1 : Int32)), .val (.int (1 : Int32)), .val (.ref b1009), .val (.ref b1036), .val (.ref r_1062), .val (.double (own_d1 i1)), .second, .val (.double (own_d2 i2)), .second, .val (.ref b1074), .val (.ref b1074), .val (.ref u_1523), .val (.int (3 : Int32)), .val (.int (1 : Int32)), .val (.ref f_1355), .val (.ref r_1355), .val (.double (own_d1 i1)), .second, .unset, .unset, .unset, .unset] [(.ref f_1469)])) rfl rfl (hb hby at_362)
          refine own_st st1600 ?_
          show own_Go _ _ _ _ _ (State.setTop _ (mkF _ 365 #[.val (.int i0), .val (.int i1), .val (.int i2), .val (.int i3), .val (.int i4), .val (.int (1 : Int32)), .val (.int (1 : Int32)), .val (.ref b1009), .val (.ref b1036), .val (.ref r_1062), .val (.double (own_d1 i1)), .second, .val (.double (own_d2 i2)), .second, .val (.ref b1074), .val (.ref b1074), .val (.ref u_1523), .val (.int (3 : Int32)), .val (.int (1 : Int32)), .val (.ref f_1355), .val (.ref r_1355), .val (.double (own_d1 i1)), .second, .unset, .unset, .unset, .unset] [(.ref f_1469)]))
          refine own_astore X1600 hx 367 rfl (hb hby at_365) rfl #[.val (.int i0), .val (.int i1), .val (.int i2), .val (.int i3), .val (.int i4), .val (.int (1 : Int32)), .val (.int (1 : Int32)), .val (.ref b1009), .val (.ref b1036), .val (.ref r_1062), .val (.double (own_d1 i1)), .second, .val (.double (own_d2 i2)), .second, .val (.ref b1074), .val (.ref b1074), .val (.ref u_1523), .val (.int (3 : Int32)), .val (.int (1 : Int32)), .val (.ref f_1355), .val (.ref r_1355), .val (.double (own_d1 i1)), .second, .val (.ref f_1469), .unset, .unset, .unset] rfl ?_
          refine own_aload X1600 hx 369 rfl (hb hby at_367) rfl rfl ?_
          refine own_aload X1600 hx 371 rfl (hb hby at_369) rfl rfl ?_
          refine own_virtual X1600 hx hZ (y := (⟨"com/example/measured_reasoner/measuredreasoner/Summary$Field", "name", "()Ljava/lang/String;"⟩ : MethodName)) (z := (⟨"com/example/measured_reasoner/measuredreasoner/Summary$Field", "name", "()Ljava/lang/String;"⟩ : MethodName)) hown (own_hw hw 248 rfl) (own_hw hw 249 rfl) (own_hw hw 251 rfl) (own_hw hw 250 rfl) rfl (a := f_1469) f1559 (by decide) (rm_fname l Z a0 hw [] f_1469 r_1062 T1523.heap n0 z1568 f1560) (own_hw hw 252 rfl) (own_hw hw 86 rfl) (by decide) e1600 (by rw [hml]; rfl) [] 1 (by decide) (Nat.le_of_eq rfl) (by decide) (by decide) (lenOf own_pd28 rfl) rfl rfl 374 rfl (hb hby at_371) fun v1601 T1601 Lc1601 X1601 hQ1601 => ?_
          obtain ⟨rfl, Nq1601, e1601⟩ := hQ1601
          have N1602 := Fr.app N1599 Nq1601
          show own_Go _ _ _ _ _ (State.setTop _ (mkF _ 374 _ [(.ref r_1062), (.ref r_1062)]))
          refine own_virtual X1601 hx hZ (y := (⟨"java/lang/String", "equals", "(Ljava/lang/Object;)Z"⟩ : MethodName)) (z := (⟨"java/lang/String", "equals", "(Ljava/lang/Object;)Z"⟩ : MethodName)) hown (own_hw hw 253 rfl) (own_hw hw 254 rfl) (own_hw hw 256 rfl) (own_hw hw 255 rfl) rfl (a := r_1062) f1545 (by decide) (rm_eq l Z a0 hw [] r_1062 T1523.heap n0 z1568 ) (own_hw hw 257 rfl) (own_hw hw 3 rfl) (by decide) e1601 (by rw [hml]; rfl) [(.ref r_1062)] 0 (by decide) (Nat.le_of_eq rfl) (by decide) (by decide) (lenOf own_pd22 rfl) rfl rfl 377 rfl (hb hby at_374) fun v1603 T1603 Lc1603 X1603 hQ1603 => ?_
          obtain ⟨rfl, Nq1603, e1603⟩ := hQ1603
          have N1604 := Fr.app N1602 Nq1603
          show own_Go _ _ _ _ _ (State.setTop _ (mkF _ 377 _ [(.int (1 : Int32))]))
          refine own_ifYes X1603 hx 382 (hb hby at_377) (by decide) (by decide) rfl ?_
          refine own_aload X1603 hx 384 rfl (hb hby at_382) rfl rfl ?_
          refine own_virtual X1603 hx hZ (y := (⟨"com/example/measured_reasoner/measuredreasoner/Summary$Field", "value", "()Ljava/lang/Number;"⟩ : MethodName)) (z := (⟨"com/example/measured_reasoner/measuredreasoner/Summary$Field", "value", "()Ljava/lang/Number;"⟩ : MethodName)) hown (own_hw hw 258 rfl) (own_hw hw 259 rfl) (own_hw hw 261 rfl) (own_hw hw 260 rfl) rfl (a := f_1469) f1559 (by decide) (rm_fval l Z a0 hw [] f_1469 r_1469 T1523.heap n0 z1568 f1561) (own_hw hw 262 rfl) (own_hw hw 86 rfl) (by decide) e1603 (by rw [hml]; rfl) [] 0 (by decide) (Nat.le_of_eq rfl) (by decide) (by decide) (lenOf own_pd29 rfl) rfl rfl 387 rfl (hb hby at_384) fun v1605 T1605 Lc1605 X1605 hQ1605 => ?_
          obtain ⟨rfl, Nq1605, e1605⟩ := hQ1605
          have N1606 := Fr.app N1604 Nq1605
          show own_Go _ _ _ _ _ (State.setTop _ (mkF _ 387 _ [(.ref r_1469)]))
          refine own_astore X1605 hx 389 rfl (hb hby at_387) rfl #[.val (.int i0), .val (.int i1), .val (.int i2), .val (.int i3), .val (.int i4), .val (.int (1 : Int32)), .val (.int (1 : Int32)), .val (.ref b1009), .val (.ref b1036), .val (.ref r_1062), .val (.double (own_d1 i1)), .second, .val (.double (own_d2 i2)), .second, .val (.ref b1074), .val (.ref b1074), .val (.ref u_1523), .val (.int (3 : Int32)), .val (.int (1 : Int32)), .val (.ref f_1355), .val (.ref r_1355), .val (.double (own_d1 i1)), .second, .val (.ref f_1469), .val (.ref r_1469), .unset, .unset] rfl ?_
          refine own_aload X1605 hx 391 rfl (hb hby at_389) rfl rfl ?_
          obtain ⟨T1607, X1607, e1607, st1607⟩ := instY X1605 hx hZ hown (own_hw hw 263 rfl) e1605 (Ins.self f1562) (g := (mkF m 391 #[.val (.int i0), .val (.int i1), .val (.int i2), .val (.int i3), .val (.int i4), .val (.int (1 : Int32)), .val (.int (1 : Int32)), .val (.ref b1009), .val (.ref b1036), .val (.ref r_1062), .val (.double (own_d1 i1)), .second, .val (.double (own_d2 i2)), .second, .val (.ref b1074), .val (.ref b1074), .val (.ref u_1523), .val (.int (3 : Int32)), .val (.int (1 : Int32)), .val (.ref f_1355), .val (.ref r_1355), .val (.double (own_d1 i1)), .second, .val (.ref f_1469), .val (.ref r_1469), .unset, .unset] [(.ref r_1469)])) rfl rfl (hb hby at_391)
          refine own_st st1607 ?_
          show own_Go _ _ _ _ _ (State.setTop _ (mkF _ 394 #[.val (.int i0), .val (.int i1), .val (.int i2), .val (.int i3), .val (.int i4), .val (.int (1 : Int32)), .val (.int (1 : Int32)), .val (.ref b1009), .val (.ref b1036), .val (.ref r_1062), .val (.double (own_d1 i1)), .second, .val (.double (own_d2 i2)), .second, .val (.ref b1074), .val (.ref b1074), .val (.ref u_1523), .val (.int (3 : Int32)), .val (.int (1 : Int32)), .val (.ref f_1355), .val (.ref r_1355), .val (.double (own_d1 i1)), .second, .val (.ref f_1469), .val (.ref r_1469), .unset, .unset] [(.int (1 : Int32))]))
          refine own_ifYes X1607 hx 399 (hb hby at_394) (by decide) (by decide) rfl ?_
          refine own_aload X1607 hx 401 rfl (hb hby at_399) rfl rfl ?_
          obtain ⟨T1608, X1608, e1608, st1608⟩ := castY X1607 hx hZ hown (own_hw hw 263 rfl) e1607 (Ins.self f1562) (g := (mkF m 401 #[.val (.int i0), .val (.int i1), .val (.int i2), .val (.int i3), .val (.int i4), .val (.int (1 : Int32)), .val (.int (1 : Int32)), .val (.ref b1009), .val (.ref b1036), .val (.ref r_1062), .val (.double (own_d1 i1)), .second, .val (.double (own_d2 i2)), .second, .val (.ref b1074), .val (.ref b1074), .val (.ref u_1523), .val (.int (3 : Int32)), .val (.int (1 : Int32)), .val (.ref f_1355), .val (.ref r_1355), .val (.double (own_d1 i1)), .second, .val (.ref f_1469), .val (.ref r_1469), .unset, .unset] [(.ref r_1469)])) rfl rfl (hb hby at_401)
          refine own_st st1608 ?_
          show own_Go _ _ _ _ _ (State.setTop _ (mkF _ 404 #[.val (.int i0), .val (.int i1), .val (.int i2), .val (.int i3), .val (.int i4), .val (.int (1 : Int32)), .val (.int (1 : Int32)), .val (.ref b1009), .val (.ref b1036), .val (.ref r_1062), .val (.double (own_d1 i1)), .second, .val (.double (own_d2 i2)), .second, .val (.ref b1074), .val (.ref b1074), .val (.ref u_1523), .val (.int (3 : Int32)), .val (.int (1 : Int32)), .val (.ref f_1355), .val (.ref r_1355), .val (.double (own_d1 i1)), .second, .val (.ref f_1469), .val (.ref r_1469), .unset, .unset] [(.ref r_1469)]))
          refine own_virtual X1608 hx hZ (y := (⟨"java/lang/Double", "doubleValue", "()D"⟩ : MethodName)) (z := (⟨"java/lang/Double", "doubleValue", "()D"⟩ : MethodName)) hown (own_hw hw 264 rfl) (own_hw hw 265 rfl) (own_hw hw 267 rfl) (own_hw hw 266 rfl) rfl (a := r_1469) f1562 (by decide) (rm_dval l Z a0 hw [] r_1469 (own_d2 i2) T1523.heap n0 z1568 f1563) (own_hw hw 268 rfl) (own_hw hw 89 rfl) (by decide) e1608 (by rw [hml]; rfl) [] 0 (by decide) (Nat.le_of_eq rfl) (by decide) (by decide) (lenOf own_pd30 rfl) rfl rfl 407 rfl (hb hby at_404) fun v1609 T1609 Lc1609 X1609 hQ1609 => ?_
          obtain ⟨rfl, Nq1609, e1609⟩ := hQ1609
          have N1610 := Fr.app N1606 Nq1609
          show own_Go _ _ _ _ _ (State.setTop _ (mkF _ 407 _ [(.double (own_d2 i2))]))
          refine own_dstore X1609 hx 409 rfl (hb hby at_407) #[.val (.int i0), .val (.int i1), .val (.int i2), .val (.int i3), .val (.int i4), .val (.int (1 : Int32)), .val (.int (1 : Int32)), .val (.ref b1009), .val (.ref b1036), .val (.ref r_1062), .val (.double (own_d1 i1)), .second, .val (.double (own_d2 i2)), .second, .val (.ref b1074), .val (.ref b1074), .val (.ref u_1523), .val (.int (3 : Int32)), .val (.int (1 : Int32)), .val (.ref f_1355), .val (.ref r_1355), .val (.double (own_d1 i1)), .second, .val (.ref f_1469), .val (.ref r_1469), .val (.double (own_d2 i2)), .second] rfl ?_
          refine own_dload X1609 hx 411 rfl (hb hby at_409) rfl ?_
          refine own_dload X1609 hx 413 rfl (hb hby at_411) rfl ?_
          refine own_dcmp X1609 hx 414 rfl (hb hby at_413) (0 : Int32) (own_self (own_d2n i2)) ?_
          refine own_ifYes X1609 hx 419 (hb hby at_414) (by decide) (by decide) rfl ?_
          refine own_iconst X1609 hx 420 rfl (hb hby at_419) (1 : Int32) rfl ?_
          refine own_ret X1609 (some (.int (1 : Int32))) (fun h => by rw [Bd.returns] at h; cases h) Bd.notSynchronized (by decide) (by decide) ?_ (fun fs hr => retN X1609 hx (t := .boolean) Bd.returns (by simp) (hb hby at_420) hr)
          show Q_rm0 Z i0 i1 i2 i3 i4 cs aE kE mA mL mR h0 n0 _ T1609.heap _
          rw [e1609]
          exact ⟨rfl, N1610⟩
    refine own_iload X0 hx 16 rfl (hb hby at_14) rfl ?_
    refine own_iconst X0 hx 17 rfl (hb hby at_16) (2 : Int32) rfl ?_
    refine own_iand X0 hx 18 rfl (hb hby at_17) _ rfl ?_
    by_cases hc1611 : (i4 &&& (2 : Int32)) = (0 : Int32)
    ·
      refine own_ifYes X0 hx 25 (hb hby at_18) ((if0 _ _).trans (teq hc1611).1) (by decide) rfl ?_
      refine own_iconst X0 hx 26 rfl (hb hby at_25) (0 : Int32) rfl ?_
      exact J26 _ (Or.inl rfl)
    ·
      refine own_ifNo X0 hx 21 rfl (hb hby at_18) ((if0 _ _).trans (feq hc1611).1) ?_
      refine own_iconst X0 hx 22 rfl (hb hby at_21) (1 : Int32) rfl ?_
      refine own_goto X0 hx 26 (hb hby at_22) (by decide) rfl ?_
      exact J26 _ (Or.inr rfl)
  show own_Go _ _ _ _ _ (State.setTop _ (mkF _ 0 #[.val (.int i0), .val (.int i1), .val (.int i2), .val (.int i3), .val (.int i4), .unset, .unset, .unset, .unset, .unset, .unset, .unset, .unset, .unset, .unset, .unset, .unset, .unset, .unset, .unset, .unset, .unset, .unset, .unset, .unset, .unset, .unset] []))
  refine own_iload X0 hx 2 rfl (hb hby at_0) rfl ?_
  refine own_iconst X0 hx 3 rfl (hb hby at_2) (1 : Int32) rfl ?_
  refine own_iand X0 hx 4 rfl (hb hby at_3) _ rfl ?_
  by_cases hc1612 : (i4 &&& (1 : Int32)) = (0 : Int32)
  ·
    refine own_ifYes X0 hx 11 (hb hby at_4) ((if0 _ _).trans (teq hc1612).1) (by decide) rfl ?_
    refine own_iconst X0 hx 12 rfl (hb hby at_11) (0 : Int32) rfl ?_
    exact J12 _ (Or.inl rfl)
  ·
    refine own_ifNo X0 hx 7 rfl (hb hby at_4) ((if0 _ _).trans (feq hc1612).1) ?_
    refine own_iconst X0 hx 8 rfl (hb hby at_7) (1 : Int32) rfl ?_
    refine own_goto X0 hx 12 (hb hby at_8) (by decide) rfl ?_
    exact J12 _ (Or.inr rfl)
theorem own_ne0 {args : Array Value} {s : State} {t : Jvm.Term} {z : Int32} (h1 : t.eval args s none [] s = some (.int z)) (h2 : (Jvm.Cond.eq t (.int 0)).value args s none s [] = some (!true)) : ¬ z = 0 :=
  gotF (by simp [Cond.value, h1, Term.eval]) h2
theorem own_arrayAt {Z : State} {a : Addr} {cl : Cell} {ty : FieldType} (A : Arr Z Z.heap a cl ty) : Z.arrayAt? a = some cl := by
  obtain ⟨h1, h2, h3⟩ := A
  obtain ⟨p1, kk, p2, comp, p3⟩ := h2
  have h4 : cl.vm.isStatics = false := by
    cases hv : cl.vm with
    | statics k => exact absurd hv (p1 k)
    | _ => rfl
  simp [State.arrayAt?, h1, p2, p3, h3, h4]
theorem own_alen {Z : State} {args : Array Value} {t : Jvm.Term} {a : Addr} {cl : Cell} {z : Int32} (ht : t.eval args Z none [] Z = some (.ref a)) (ha : Z.arrayAt? a = some cl) (w : (Jvm.Cond.eq (Jvm.Term.length t) (Jvm.Term.int z)).value args Z none Z [] = some true) : cl.slots.size < 2 ^ 31 ∧ cl.slots.size.toInt32 = z := by
  by_cases hs : cl.slots.size < 2 ^ 31
  · exact ⟨hs, by simpa [Cond.value, Term.eval, ht, ha, hs] using w⟩
  · simp [Cond.value, Term.eval, ht, ha, hs] at w
section OwnStart
variable {Z : State} {args : Array Value} {C n d ad : String} {ty : FieldType} {z : Int32}
theorem own_start0 (hf : Fit Z) (w1 : (Jvm.Cond.exactly (Jvm.Term.static C n d) ad).before args Z = true) (w2 : (Jvm.Cond.arrayOf (Jvm.Term.static C n d) ty).before args Z = true) (w3 : (Jvm.Cond.eq (Jvm.Term.length (Jvm.Term.static C n d)) (Jvm.Term.int z)).before args Z = true) (hz : ¬ z < 0) (hi : (Jvm.Cond.initializedFor C n d).before args Z = true ∨ ((Jvm.Cond.initialized C).before args Z = true ∧ (Jvm.Cond.laysStatic C n d).before args Z = true)) :
    ∃ (a : Addr) (cl : Cell), Sta Z Z.heap C n d (.ref a) ∧ Arr Z Z.heap a cl ty ∧ cl.slots.size = z.toNatClampNeg ∧ Arv Z Z.heap a cl.cls ty z cl.slots.toList .null ∧ (Jvm.Term.static C n d).eval args Z none [] Z = some (.ref a) := by
  obtain ⟨a, ev⟩ := exa_v (Cond.before_iff.mp w1)
  obtain ⟨cl, A⟩ := Arr.start ev (Cond.before_iff.mp w2)
  obtain ⟨e3, ez⟩ := own_alen ev (own_arrayAt A) (Cond.before_iff.mp w3)
  have S : cl.slots.size = z.toNatClampNeg := by rw [← ez]; simp only [Int32.toNatClampNeg, len_toInt e3]; rfl
  have H' : Has cl cl.slots.toList .null := fun j hj => by simp [List.getD_eq_getElem?_getD, hj]
  refine ⟨a, cl, Sta.start ev hi, A, S, ⟨cl, A, rfl, S, hz, H', fun j hj => ?_⟩, ev⟩
  have e1 : (Nat.toInt32 j).toNatClampNeg = j := by simp only [Int32.toNatClampNeg, len_toInt (Nat.lt_trans hj e3)]; rfl
  exact elem_fits (j := Nat.toInt32 j) hf A (idx_in hj e3) (by rw [e1]; exact H' j hj)
theorem own_empty {a : Addr} {k : ClassId} {vs : List Value} {dv : Value} (F : Arv Z Z.heap a k ty z vs dv) (h : vs = []) : Arv Z Z.heap a k ty z [] dv := h ▸ F
end OwnStart
theorem own_startC {Z : State} {args : Array Value} (hf : Fit Z) (w1 : (Jvm.Cond.exactly (Jvm.Term.static "java/lang/Long$LongCache" "cache" "[Ljava/lang/Long;") "[Ljava/lang/Long;").before args Z = true) (w2 : (Jvm.Cond.arrayOf (Jvm.Term.static "java/lang/Long$LongCache" "cache" "[Ljava/lang/Long;") (.object "java/lang/Long")).before args Z = true) (w3 : (Jvm.Cond.eq (Jvm.Term.length (Jvm.Term.static "java/lang/Long$LongCache" "cache" "[Ljava/lang/Long;")) (Jvm.Term.int (256 : Int32))).before args Z = true)
    (w4 : (Jvm.Cond.all (Jvm.Term.static "java/lang/Long$LongCache" "cache" "[Ljava/lang/Long;") (Jvm.Cond.and (Jvm.Cond.exactly (Jvm.Term.elem (Jvm.Term.static "java/lang/Long$LongCache" "cache" "[Ljava/lang/Long;") (Jvm.Term.index 0)) "java/lang/Long") (Jvm.Cond.eq (Jvm.Term.field (Jvm.Term.elem (Jvm.Term.static "java/lang/Long$LongCache" "cache" "[Ljava/lang/Long;") (Jvm.Term.index 0)) "java/lang/Long" "value" "J") (Jvm.Term.op1 Jvm.Unary.i2l (Jvm.Term.sub (Jvm.Term.index 0) (Jvm.Term.int (128 : Int32))))))).before args Z = true)
    (hi : (Jvm.Cond.initializedFor "java/lang/Long$LongCache" "cache" "[Ljava/lang/Long;").before args Z = true ∨ ((Jvm.Cond.initialized "java/lang/Long$LongCache").before args Z = true ∧ (Jvm.Cond.laysStatic "java/lang/Long$LongCache" "cache" "[Ljava/lang/Long;").before args Z = true)) : own_Ca Z Z.heap Z.heap.size := by
  obtain ⟨aC, cl, sC, AC, zC, fC, ev⟩ := own_start0 hf w1 w2 w3 (by decide) hi
  have hz : cl.slots.size = 256 := zC.trans (by decide)
  refine ⟨aC, cl.cls, cl.slots.toList, sC, fC, AC.lt, fun i hi => ?_⟩
  have hat : Z.arrayAt? aC = some cl := own_arrayAt AC
  have hb := Cond.all_elim ev hat (Cond.before_iff.mp w4) i (by omega)
  obtain ⟨g1, g2⟩ := and_e hb
  obtain ⟨y, c', cell, k, e1, e2, e3, e4, e5, rfl, e7⟩ := Cond.exactly_spec (beq_iff_eq.mpr g1)
  obtain ⟨a2, j, cell2, q1, q2, q3, q4, q5⟩ := Term.elem_spec e1
  have evI : (Jvm.Term.static "java/lang/Long$LongCache" "cache" "[Ljava/lang/Long;").eval args Z none [i] Z = some (.ref aC) := ev
  cases evI.symm.trans q1
  cases hat.symm.trans q3
  have ej : j = Nat.toInt32 i := by
    have : (Jvm.Term.index 0).eval args Z none [i] Z = some (.int (Nat.toInt32 i)) := by simp [Term.eval]
    cases this.symm.trans q2
    rfl
  subst ej
  have ei : (Nat.toInt32 i).toNatClampNeg = i := by simp only [Int32.toNatClampNeg, len_toInt (show i < 2 ^ 31 by omega)]; rfl
  rw [ei] at q5
  have hF : Z.fieldOf? y "java/lang/Long" "value" "J" = some (.long (Int64.ofInt ((i : Int) - 128))) := by
    have h1 := fld_at (C := "java/lang/Long") (n := "value") (dd := "J") e1
    cases hv : Z.fieldOf? y "java/lang/Long" "value" "J" with
    | none => rw [hv] at h1; simp [Cond.value, h1] at g2
    | some v =>
      rw [hv] at h1
      have h2 : (Jvm.Term.op1 Jvm.Unary.i2l (Jvm.Term.sub (Jvm.Term.index 0) (Jvm.Term.int (128 : Int32)))).eval args Z none [i] Z = some (.long (Nat.toInt32 i - 128).toInt64) := by simp [Term.eval, Unary.apply]
      have h3 : v = .long (Nat.toInt32 i - 128).toInt64 := by
        cases v <;> simp [Cond.value, h1, h2] at g2 ⊢
        exact g2
      rw [h3]
      congr 2
      refine Int64.toInt_inj.mp ?_
      rw [Int64.toInt_ofInt_of_le (by omega) (by omega), c_i2l]
      have k1 := c_isub (Nat.toInt32 i) 128
      have k2 := rng32 (Nat.toInt32 i - 128)
      have k3 : (Nat.toInt32 i).toInt = i := len_toInt (show i < 2 ^ 31 by omega)
      have k4 : ((128 : Int32)).toInt = 128 := by decide
      omega
  have E : Exa Z Z.heap y "java/lang/Long" := ⟨cell, k, e3, e2, e4, e5, e7⟩
  exact ⟨y, E.lt, by simp [List.getD_eq_getElem?_getD, q5], E, Fld.start hF⟩

set_option maxRecDepth 65536 in
set_option maxHeartbeats 40000000 in
theorem comes_1 {Post : Tables → Env → Array Value → State → Outcome → State → Prop} (hpost : ∀ tb e args s v u, (limb_1_1.after args s (.returned v) u = true ∧ limb_1_2.after args s (.returned v) u = true ∧ True) → FrameEnd s (.returned v) u (Jvm.fieldLocs frame_1_writes args s ++ Jvm.arrayLocs frame_1_arrays args s ++ Jvm.staticLocs frame_1_statics s) 40 192 → Post tb e args s (.returned v) u) :
    ArmFor flags0 classFile x code maxLocals ret World_1 tables_1 room_1 Calls_1 rest_1 Pre_1 Post := by
  intro l hfl _ _ p e ha hc hk s m args below hf hA hF happ hP
  obtain ⟨hcalls, hrest, hpre⟩ := hP
  obtain ⟨-, -, -, hnamed, -, -, -, hat⟩ := (Spec.applies_iff hf).mp happ
  obtain ⟨hg, hn⟩ := and_e (Cond.before_iff.mp (show (Jvm.Cond.and given_1 narrow_1).before args s = true from hpre))
  obtain ⟨hcount, hg1⟩ := and_e hg
  obtain ⟨ha0, hgr0⟩ := and_e hg1
  obtain ⟨ha1, hgr1⟩ := and_e hgr0
  obtain ⟨ha2, hgr2⟩ := and_e hgr1
  obtain ⟨ha3, hgr3⟩ := and_e hgr2
  obtain ⟨w0, w1, w2, w3, w4, rfl⟩ : ∃ w0 w1 w2 w3 w4 : Value, args = #[w0, w1, w2, w3, w4] := by
    have hs : args.size = 5 := by simpa [Cond.value, given_1] using hcount
    obtain ⟨L⟩ := args
    match L, hs with
    | [w0, w1, w2, w3, w4], _ => exact ⟨w0, w1, w2, w3, w4, rfl⟩
  have hw := fun d (hd : d ∈ tables_1) => atoms_spec (ws := Jvm.Cond.code x code maxLocals ret :: tables_1) hat d (List.mem_cons_of_mem _ hd)
  have hfit : Fit s := fun {y c} hc i hi => by
    obtain ⟨ha, rfl⟩ := Array.getElem?_eq_some_iff.mp hc
    have q := List.all_eq_true.mp ((Array.all_eq_true_iff_forall_mem.mp hF) _ (Array.getElem_mem ha)) i (List.mem_range.mpr hi)
    simpa [Array.getElem?_eq_getElem hi] using q
  obtain ⟨i0, ei0⟩ := is_v ha0
  obtain rfl : w0 = (.int i0) := Option.some.inj ei0
  obtain ⟨i1, ei1⟩ := is_v ha1
  obtain rfl : w1 = (.int i1) := Option.some.inj ei1
  obtain ⟨i2, ei2⟩ := is_v ha2
  obtain rfl : w2 = (.int i2) := Option.some.inj ei2
  obtain ⟨i3, ei3⟩ := is_v ha3
  obtain rfl : w3 = (.int i3) := Option.some.inj ei3
  obtain ⟨i4, ei4⟩ := is_v hgr3
  obtain rfl : w4 = (.int i4) := Option.some.inj ei4
  obtain ⟨hsets, hown0⟩ := atoms_of _ (rest_1_c_eq ▸ (show rest_1_c.before _ s = true from hrest))
  obtain ⟨cs, ecs⟩ := is_v (Cond.before_iff.mp (hsets _ (List.mem_of_getElem? (i := 1) rfl)))
  have hcs := own_ne0 ecs (not_v (Cond.before_iff.mp (hsets _ (List.mem_of_getElem? (i := 2) rfl))))
  obtain ⟨⟨cA, kA, mA, a1, a2, a3, a4⟩, ⟨cL, kL, mL, b1, b2, b3, b4⟩, ⟨cR, kR, mR, d1, d2, d3, d4⟩, -⟩ := hcalls
  have MA : Mir s "java/util/ArrayList" mA := ⟨cA, kA, a1, a2, a3, a4⟩
  have ML : Mir s "java/util/Collections$UnmodifiableList" mL := ⟨cL, kL, b1, b2, b3, b4⟩
  have MR : Mir s "java/util/Collections$UnmodifiableRandomAccessList" mR := ⟨cR, kR, d1, d2, d3, d4⟩
  obtain ⟨aE, clE, sE, AE, zE, fE, evE⟩ := own_start0 hfit (hsets _ (List.mem_of_getElem? (i := 16) rfl)) (hsets _ (List.mem_of_getElem? (i := 15) rfl)) (hsets _ (List.mem_of_getElem? (i := 17) rfl)) (by decide) (Or.inr ⟨(own_hw hw 55 rfl), (hsets _ (List.mem_of_getElem? (i := 11) rfl))⟩)
  have fE' := own_empty fE (List.eq_nil_of_length_eq_zero (by rw [Array.length_toList, zE]; rfl))
  have C1 := own_startC hfit (hsets _ (List.mem_of_getElem? (i := 21) rfl)) (hsets _ (List.mem_of_getElem? (i := 20) rfl)) (hsets _ (List.mem_of_getElem? (i := 22) rfl)) (hsets _ (List.mem_of_getElem? (i := 23) rfl)) (Or.inl (hsets _ (List.mem_of_getElem? (i := 19) rfl)))
  obtain ⟨n, o, h1, h2, h3, _, L, rfl, ⟨rfl, N⟩, hq⟩ := rm0 l s _ hw tables_1 i0 i1 i2 i3 i4 cs aE clE.cls mA mL mR s.heap s.heap.size (Nat.le_refl _) (Sta.start ecs (Or.inl (hsets _ (List.mem_of_getElem? (i := 0) rfl)))) sE fE' C1 hcs ⟨cA, kA, a1, a2, a3⟩ ⟨cL, kL, b1, b2, b3⟩ ⟨cR, kR, d1, d2, d3⟩ (Mir.ne MA ML (by decide)) (Mir.ne MA MR (by decide)) p e ha hc hk s m _ below hf ((Spec.applies_iff_loose hf).mp happ).1 ⟨rfl, State.Warmed39.refl s, rfl⟩ trivial
  refine ⟨n, _, h1, h2, h3, hpost _ _ _ _ _ _ ⟨Cond.after_iff.mpr rfl, Cond.after_iff.mpr (eq_i res_at (Term.int_eval (1)) rfl), trivial⟩ ⟨hq.1, hq.2.1, (hq.2.2.sift fun y hy => Or.inr (N y hy)).mono (by decide) (by decide)⟩⟩
theorem main_1_1 : Claimed_1_1 := comes_1 fun _ _ _ _ _ _ h hF => ⟨h.1, hF⟩
theorem main_1_2 : Claimed_1_2 := comes_1 fun _ _ _ _ _ _ h hF => ⟨h.2.1, hF⟩
end Jvm.Pilot.@@N@@
namespace Jvm.Pilot.@@N@@
open Jvm Jvm.ClassFile Sem Op Lib Jvm.Free Jvm.Stand Jvm.Pilot.@@N@@.Jvm.D
/-! MADE BY PROGRAM (witnessworld.py) out of the Statement's table words and the real class files: 43 classes; the members and pool entries that the words name. The judged class is class 1, her method 1. -/
namespace start1
open Jvm.ClassFile
def u (s : String) : CpInfo := .utf8 (stringToUtf16 s)
/-- a pool by its gaps: so many unusable entries, then the entry; so many at the end -/
def gap : Nat → List CpInfo → List CpInfo
  | 0, r => r
  | n + 1, r => .unusable :: gap n r
def poolList (es : List (Nat × CpInfo)) (last : Nat) : List CpInfo := es.foldr (fun e r => gap e.1 (e.2 :: r)) (gap last [])
def pool (es : List (Nat × CpInfo)) (last : Nat) : Array CpInfo := ⟨poolList es last⟩
def fileOf (pool : Array CpInfo) (this : Nat) (attrs : Array Attribute := #[]) (ms : Array MethodInfo := #[]) (fl : Nat := 33) (sup : Nat := 0) (ifs : Array Nat := #[]) (fds : Array FieldInfo := #[]) : ClassFile where
  minorVersion := 0
  majorVersion := 65
  constantPool := pool
  accessFlags := fl
  thisClass := this
  superClass := sup
  interfaces := ifs
  fields := fds
  methods := ms
  attributes := attrs
def plain (name : String) (sup : Option ClassId) : Class where
  name := name
  kind := .ordinary
  loader := none
  accessFlags := 33
  super := sup
  interfaces := #[]
  cf := none
  fields := #[]
  methods := #[]
  instanceTypes := #[]
  staticTypes := #[]
  resolved := #[]
  callSites := []
  init := .initialized
  statics := none
  mirror := none

def pool0 : Array CpInfo := pool [(5, u "<init>"), (0, u "()V"), (1, .class_ 10), (1, u "java/lang/Object"), (0, u "getClass"), (0, u "()Ljava/lang/Class;")] 111

def k0c0 : Code := { maxStack := 0, maxLocals := 1, code := object_method_1_code, exceptionTable := #[], attributes := #[] }
def k0m0 : Method := { name := "<init>", desc := "()V", sig := { parameters := [], returnType := none }, accessFlags := 1, code := some k0c0 }
def k0m1 : Method := { name := "getClass", desc := "()Ljava/lang/Class;", sig := { parameters := [], returnType := some (.object "java/lang/Class") }, accessFlags := 273, code := none }
/-- java/lang/Object -/
def k0 : Class := { plain "java/lang/Object" none with
  accessFlags := 33
  interfaces := #[]
  cf := some (fileOf pool0 8 #[] #[{ accessFlags := 1, nameIndex := 5, descriptorIndex := 6, attributes := #[] }, { accessFlags := 273, nameIndex := 11, descriptorIndex := 12, attributes := #[] }] 33 0 #[] #[])
  fields := #[]
  methods := #[k0m0, k0m1]
  instanceTypes := #[]
  staticTypes := #[]
  resolved := Array.replicate 124 none
  statics := none }

def pool1 : Array CpInfo := pool [(2, .class_ 4), (0, .nameAndType 5 6), (0, u "java/lang/Object"), (0, u "<init>"), (0, u "()V"), (0, .class_ 8), (0, u "java/lang/String"), (0, .methodref 7 10), (0, .nameAndType 5 11), (0, u "([C)V"), (0, .methodref 7 13), (0, .nameAndType 14 15), (0, u "valueOf"), (0, u "(C)Ljava/lang/String;"), (0, .double 4620693217682128896), (1, .double 4616189618054758400), (1, .class_ 21), (0, u "com/example/measured_reasoner/measuredreasoner/Summary"), (0, .methodref 20 3), (0, .methodref 20 24), (0, .nameAndType 25 26), (0, u "count"), (0, u "(Ljava/lang/String;J)Lcom/example/measured_reasoner/measuredreasoner/Summary;"), (0, .methodref 20 28), (0, .nameAndType 29 30), (0, u "mean"), (0, u "(Ljava/lang/String;D)Lcom/example/measured_reasoner/measuredreasoner/Summary;"), (0, .methodref 20 32), (0, .nameAndType 33 34), (0, u "fields"), (0, u "()Ljava/util/List;"), (0, .interfaceMethodref 36 37), (0, .class_ 38), (0, .nameAndType 39 40), (0, u "java/util/List"), (0, u "size"), (0, u "()I"), (0, .interfaceMethodref 36 42), (0, .nameAndType 43 44), (0, u "get"), (0, u "(I)Ljava/lang/Object;"), (0, .class_ 46), (0, u "com/example/measured_reasoner/measuredreasoner/Summary$Field"), (0, .methodref 45 48), (0, .nameAndType 49 50), (0, u "name"), (0, u "()Ljava/lang/String;"), (0, .methodref 7 52), (0, .nameAndType 53 54), (0, u "equals"), (0, u "(Ljava/lang/Object;)Z"), (0, .methodref 45 56), (0, .nameAndType 57 58), (0, u "value"), (0, u "()Ljava/lang/Number;"), (0, .class_ 60), (0, u "java/lang/Long"), (0, .methodref 59 62), (0, .nameAndType 63 64), (0, u "longValue"), (0, u "()J"), (0, .class_ 66), (0, u "java/lang/Double"), (0, .methodref 65 68), (0, .nameAndType 69 70), (0, u "doubleValue"), (0, u "()D"), (0, .class_ 72), (0, u "com/example/measured_reasoner/measuredreasoner/SummaryMeanPinLaw"), (2, u "law"), (0, u "(IIIII)Z")] 9

def k1m0 : Method := { name := "<init>", desc := "()V", sig := { parameters := [], returnType := none }, accessFlags := 2, code := none }
def k1c1 : Code := { maxStack := 4, maxLocals := 27, code := code, exceptionTable := #[], attributes := #[] }
def k1m1 : Method := { name := "law", desc := "(IIIII)Z", sig := { parameters := [.int, .int, .int, .int, .int], returnType := some .boolean }, accessFlags := 9, code := some k1c1 }
/-- com/example/measured_reasoner/measuredreasoner/SummaryMeanPinLaw -/
def k1 : Class := { plain "com/example/measured_reasoner/measuredreasoner/SummaryMeanPinLaw" (some 0) with
  accessFlags := 49
  interfaces := #[]
  cf := some (fileOf pool1 71 #[] #[{ accessFlags := 2, nameIndex := 5, descriptorIndex := 6, attributes := #[] }, { accessFlags := 9, nameIndex := 75, descriptorIndex := 76, attributes := #[] }] 49 2 #[] #[])
  fields := #[]
  methods := #[k1m0, k1m1]
  instanceTypes := #[]
  staticTypes := #[]
  resolved := Array.replicate 86 none
  statics := none }

def pool2 : Array CpInfo := pool [(1, .class_ 2), (0, u "java/io/Serializable"), (0, .class_ 4), (0, u "java/lang/Object")] 2

/-- java/io/Serializable -/
def k2 : Class := { plain "java/io/Serializable" (some 0) with
  accessFlags := 1537
  interfaces := #[]
  cf := some (fileOf pool2 1 #[] #[] 1537 3 #[] #[])
  fields := #[]
  methods := #[]
  instanceTypes := #[]
  staticTypes := #[]
  resolved := Array.replicate 7 none
  statics := none }

def pool3 : Array CpInfo := pool [(1, .class_ 2), (0, u "java/lang/Comparable"), (0, .class_ 4), (0, u "java/lang/Object")] 7

/-- java/lang/Comparable -/
def k3 : Class := { plain "java/lang/Comparable" (some 0) with
  accessFlags := 1537
  interfaces := #[]
  cf := some (fileOf pool3 1 #[] #[] 1537 3 #[] #[])
  fields := #[]
  methods := #[]
  instanceTypes := #[]
  staticTypes := #[]
  resolved := Array.replicate 12 none
  statics := none }

def pool4 : Array CpInfo := pool [(2, .class_ 4), (1, u "java/lang/CharSequence"), (42, .class_ 48), (0, u "java/lang/CharSequence$1CodePointIterator"), (10, .class_ 60), (0, u "java/lang/CharSequence$1CharIterator"), (5, .class_ 67), (0, u "java/lang/Object")] 63

/-- java/lang/CharSequence -/
def k4 : Class := { plain "java/lang/CharSequence" (some 0) with
  accessFlags := 1537
  interfaces := #[]
  cf := some (fileOf pool4 2 #[.nestMembers #[47, 59]] #[] 1537 66 #[] #[])
  fields := #[]
  methods := #[]
  instanceTypes := #[]
  staticTypes := #[]
  resolved := Array.replicate 131 none
  statics := none }

def pool5 : Array CpInfo := pool [(1, .class_ 2), (0, u "java/lang/constant/Constable"), (0, .class_ 4), (0, u "java/lang/Object")] 6

/-- java/lang/constant/Constable -/
def k5 : Class := { plain "java/lang/constant/Constable" (some 0) with
  accessFlags := 1537
  interfaces := #[]
  cf := some (fileOf pool5 1 #[] #[] 1537 3 #[] #[])
  fields := #[]
  methods := #[]
  instanceTypes := #[]
  staticTypes := #[]
  resolved := Array.replicate 11 none
  statics := none }

def pool6 : Array CpInfo := pool [(1, .class_ 2), (0, u "java/lang/constant/ConstantDesc"), (0, .class_ 4), (0, u "java/lang/Object")] 32

/-- java/lang/constant/ConstantDesc -/
def k6 : Class := { plain "java/lang/constant/ConstantDesc" (some 0) with
  accessFlags := 1537
  interfaces := #[]
  cf := some (fileOf pool6 1 #[] #[] 1537 3 #[] #[])
  fields := #[]
  methods := #[]
  instanceTypes := #[]
  staticTypes := #[]
  resolved := Array.replicate 37 none
  statics := none }

def pool7 : Array CpInfo := pool [(1, .methodref 2 3), (0, .class_ 4), (0, .nameAndType 5 6), (0, u "java/lang/Object"), (0, u "<init>"), (0, u "()V"), (2, .fieldref 10 11), (0, .class_ 12), (0, .nameAndType 13 14), (0, u "java/lang/String"), (0, u "value"), (0, u "[B"), (0, .fieldref 10 16), (0, .nameAndType 17 18), (0, u "coder"), (0, u "B"), (2, u "hash"), (0, u "I"), (2, u "hashIsZero"), (0, u "Z"), (0, .methodref 10 28), (0, .nameAndType 5 29), (0, u "([CIILjava/lang/Void;)V"), (8, .fieldref 10 39), (0, .nameAndType 40 26), (0, u "COMPACT_STRINGS"), (1, .class_ 44), (1, u "java/lang/StringUTF16"), (0, u "compress"), (1, .methodref 42 48), (0, .nameAndType 49 50), (0, u "coderFromArrayLen"), (0, u "([BI)B"), (2, u "toBytes"), (53, .class_ 109), (1, u "java/lang/StringLatin1"), (67, .methodref 42 178), (0, .nameAndType 45 179), (0, u "([CII)[B"), (29, .methodref 10 210), (0, .nameAndType 5 211), (0, u "([BB)V"), (157, u "(C)Z"), (173, u "equals"), (29, u "(Ljava/lang/Object;)Z"), (1, .class_ 576), (0, u "java/lang/CharSequence"), (22, u "CASE_INSENSITIVE_ORDER"), (0, u "Ljava/util/Comparator;"), (181, u "valueOf"), (0, u "(C)Ljava/lang/String;"), (226, u "([C)V"), (4, .methodref 107 1016), (0, .nameAndType 1017 369), (0, u "canEncode"), (0, .methodref 107 1019), (0, .nameAndType 53 1020), (0, u "(C)[B"), (80, u "serialPersistentFields"), (0, u "[Ljava/io/ObjectStreamField;"), (0, .class_ 1104), (0, u "java/lang/String$CaseInsensitiveComparator"), (1, .class_ 1107), (0, u "java/io/Serializable"), (0, .class_ 1109), (0, u "java/lang/Comparable"), (0, .class_ 1111), (0, u "java/lang/constant/Constable"), (0, .class_ 1113), (0, u "java/lang/constant/ConstantDesc"), (2, u "serialVersionUID"), (0, u "J"), (3, u "REPL"), (0, u "C"), (2, u "LATIN1"), (1, u "UTF16")] 323

def k7m0 : Method := { name := "<init>", desc := "()V", sig := { parameters := [], returnType := none }, accessFlags := 1, code := none }
def k7c1 : Code := { maxStack := 5, maxLocals := 2, code := jdk_42_method_3_code, exceptionTable := #[], attributes := #[] }
def k7m1 : Method := { name := "<init>", desc := "([C)V", sig := { parameters := [(.array .char)], returnType := none }, accessFlags := 1, code := some k7c1 }
def k7c2 : Code := { maxStack := 2, maxLocals := 3, code := jdk_42_method_66_code, exceptionTable := #[], attributes := #[] }
def k7m2 : Method := { name := "equals", desc := "(Ljava/lang/Object;)Z", sig := { parameters := [(.object "java/lang/Object")], returnType := some .boolean }, accessFlags := 1, code := some k7c2 }
def k7c3 : Code := { maxStack := 4, maxLocals := 1, code := jdk_42_method_139_code, exceptionTable := #[], attributes := #[] }
def k7m3 : Method := { name := "valueOf", desc := "(C)Ljava/lang/String;", sig := { parameters := [.char], returnType := some (.object "java/lang/String") }, accessFlags := 9, code := some k7c3 }
def k7c4 : Code := { maxStack := 4, maxLocals := 6, code := jdk_42_method_149_code, exceptionTable := #[], attributes := #[] }
def k7m4 : Method := { name := "<init>", desc := "([CIILjava/lang/Void;)V", sig := { parameters := [(.array .char), .int, .int, (.object "java/lang/Void")], returnType := none }, accessFlags := 2, code := some k7c4 }
def k7c5 : Code := { maxStack := 2, maxLocals := 3, code := jdk_42_method_151_code, exceptionTable := #[], attributes := #[] }
def k7m5 : Method := { name := "<init>", desc := "([BB)V", sig := { parameters := [(.array .byte), .byte], returnType := none }, accessFlags := 0, code := some k7c5 }
/-- java/lang/String -/
def k7 : Class := { plain "java/lang/String" (some 0) with
  accessFlags := 49
  interfaces := #[2, 3, 4, 5, 6]
  cf := some (fileOf pool7 10 #[.nestMembers #[1103]] #[{ accessFlags := 1, nameIndex := 5, descriptorIndex := 6, attributes := #[] }, { accessFlags := 1, nameIndex := 5, descriptorIndex := 1010, attributes := #[] }, { accessFlags := 1, nameIndex := 543, descriptorIndex := 573, attributes := #[] }, { accessFlags := 9, nameIndex := 782, descriptorIndex := 783, attributes := #[] }, { accessFlags := 2, nameIndex := 5, descriptorIndex := 29, attributes := #[] }, { accessFlags := 0, nameIndex := 5, descriptorIndex := 211, attributes := #[] }] 49 2 #[1106, 1108, 575, 1110, 1112] #[{ accessFlags := 18, nameIndex := 13, descriptorIndex := 14, attributes := #[] }, { accessFlags := 18, nameIndex := 17, descriptorIndex := 18, attributes := #[] }, { accessFlags := 2, nameIndex := 21, descriptorIndex := 22, attributes := #[] }, { accessFlags := 2, nameIndex := 25, descriptorIndex := 26, attributes := #[] }, { accessFlags := 26, nameIndex := 1116, descriptorIndex := 1117, attributes := #[] }, { accessFlags := 24, nameIndex := 40, descriptorIndex := 26, attributes := #[] }, { accessFlags := 26, nameIndex := 1101, descriptorIndex := 1102, attributes := #[] }, { accessFlags := 26, nameIndex := 1121, descriptorIndex := 1122, attributes := #[] }, { accessFlags := 25, nameIndex := 599, descriptorIndex := 600, attributes := #[] }, { accessFlags := 24, nameIndex := 1125, descriptorIndex := 18, attributes := #[] }, { accessFlags := 24, nameIndex := 1127, descriptorIndex := 18, attributes := #[] }])
  fields := #[{ name := "value", type := (.array .byte), accessFlags := 18, slot := 0, constantValue := 0 }, { name := "coder", type := .byte, accessFlags := 18, slot := 1, constantValue := 0 }, { name := "hash", type := .int, accessFlags := 2, slot := 2, constantValue := 0 }, { name := "hashIsZero", type := .boolean, accessFlags := 2, slot := 3, constantValue := 0 }, { name := "serialVersionUID", type := .long, accessFlags := 26, slot := 0, constantValue := 0 }, { name := "COMPACT_STRINGS", type := .boolean, accessFlags := 24, slot := 1, constantValue := 0 }, { name := "serialPersistentFields", type := (.array (.object "java/io/ObjectStreamField")), accessFlags := 26, slot := 2, constantValue := 0 }, { name := "REPL", type := .char, accessFlags := 26, slot := 3, constantValue := 0 }, { name := "CASE_INSENSITIVE_ORDER", type := (.object "java/util/Comparator"), accessFlags := 25, slot := 4, constantValue := 0 }, { name := "LATIN1", type := .byte, accessFlags := 24, slot := 5, constantValue := 0 }, { name := "UTF16", type := .byte, accessFlags := 24, slot := 6, constantValue := 0 }]
  methods := #[k7m0, k7m1, k7m2, k7m3, k7m4, k7m5]
  instanceTypes := #[(.array .byte), .byte, .int, .boolean]
  staticTypes := #[.long, .boolean, (.array (.object "java/io/ObjectStreamField")), .char, (.object "java/util/Comparator"), .byte, .byte]
  resolved := Array.replicate 1451 none
  statics := some 0 }

def pool8 : Array CpInfo := pool [(6, .class_ 8), (1, u "java/lang/Object"), (0, u "<init>"), (0, u "()V"), (1, .class_ 14), (1, u "java/lang/StringUTF16"), (31, u "$assertionsDisabled"), (0, u "Z"), (13, u "HI_BYTE_SHIFT"), (0, u "I"), (2, u "LO_BYTE_SHIFT"), (49, .methodref 12 116), (0, .nameAndType 117 118), (0, u "compress"), (0, u "([CI[BII)I"), (3, u "([CII)[B"), (138, u "coderFromArrayLen"), (0, u "([BI)B"), (106, .class_ 371), (1, u "java/lang/StringUTF16$LinesSpliterator"), (58, u "MAX_LENGTH"), (196, .class_ 628), (0, u "java/lang/StringUTF16$CodePointsSpliterator"), (0, .class_ 630), (0, u "java/lang/StringUTF16$CharsSpliterator")] 4

def k8m0 : Method := { name := "<init>", desc := "()V", sig := { parameters := [], returnType := none }, accessFlags := 0, code := none }
def k8c1 : Code := { maxStack := 2, maxLocals := 2, code := jdk_52_method_15_code, exceptionTable := #[], attributes := #[] }
def k8m1 : Method := { name := "coderFromArrayLen", desc := "([BI)B", sig := { parameters := [(.array .byte), .int], returnType := some .byte }, accessFlags := 8, code := some k8c1 }
def k8c2 : Code := { maxStack := 5, maxLocals := 6, code := jdk_52_method_16_code, exceptionTable := #[], attributes := #[] }
def k8m2 : Method := { name := "compress", desc := "([CII)[B", sig := { parameters := [(.array .char), .int, .int], returnType := some (.array .byte) }, accessFlags := 9, code := some k8c2 }
def k8c3 : Code := { maxStack := 3, maxLocals := 7, code := jdk_52_method_21_code, exceptionTable := #[], attributes := #[] }
def k8m3 : Method := { name := "compress", desc := "([CI[BII)I", sig := { parameters := [(.array .char), .int, (.array .byte), .int, .int], returnType := some .int }, accessFlags := 9, code := some k8c3 }
/-- java/lang/StringUTF16 -/
def k8 : Class := { plain "java/lang/StringUTF16" (some 0) with
  accessFlags := 48
  interfaces := #[]
  cf := some (fileOf pool8 12 #[.nestMembers #[627, 629, 369]] #[{ accessFlags := 0, nameIndex := 9, descriptorIndex := 10, attributes := #[] }, { accessFlags := 8, nameIndex := 261, descriptorIndex := 262, attributes := #[] }, { accessFlags := 9, nameIndex := 117, descriptorIndex := 122, attributes := #[] }, { accessFlags := 9, nameIndex := 117, descriptorIndex := 118, attributes := #[] }] 48 6 #[] #[{ accessFlags := 26, nameIndex := 61, descriptorIndex := 62, attributes := #[] }, { accessFlags := 26, nameIndex := 65, descriptorIndex := 62, attributes := #[] }, { accessFlags := 24, nameIndex := 430, descriptorIndex := 62, attributes := #[] }, { accessFlags := 4120, nameIndex := 46, descriptorIndex := 47, attributes := #[] }])
  fields := #[{ name := "HI_BYTE_SHIFT", type := .int, accessFlags := 26, slot := 0, constantValue := 0 }, { name := "LO_BYTE_SHIFT", type := .int, accessFlags := 26, slot := 1, constantValue := 0 }, { name := "MAX_LENGTH", type := .int, accessFlags := 24, slot := 2, constantValue := 0 }, { name := "$assertionsDisabled", type := .boolean, accessFlags := 4120, slot := 3, constantValue := 0 }]
  methods := #[k8m0, k8m1, k8m2, k8m3]
  instanceTypes := #[]
  staticTypes := #[.int, .int, .int, .boolean]
  resolved := Array.replicate 635 none
  statics := none }

def pool9 : Array CpInfo := pool [(4, .class_ 6), (1, u "java/lang/Object"), (0, u "<init>"), (0, u "()V"), (5, .class_ 16), (1, u "java/lang/StringLatin1"), (73, u "canEncode"), (14, u "(C)Z"), (15, u "$assertionsDisabled"), (0, u "Z"), (98, .class_ 223), (1, u "java/lang/StringLatin1$LinesSpliterator"), (156, u "toBytes"), (1, u "(C)[B"), (7, .class_ 391), (0, u "java/lang/StringLatin1$CharsSpliterator")] 3

def k9m0 : Method := { name := "<init>", desc := "()V", sig := { parameters := [], returnType := none }, accessFlags := 0, code := none }
def k9c1 : Code := { maxStack := 2, maxLocals := 1, code := jdk_43_method_3_code, exceptionTable := #[], attributes := #[] }
def k9m1 : Method := { name := "canEncode", desc := "(C)Z", sig := { parameters := [.char], returnType := some .boolean }, accessFlags := 9, code := some k9c1 }
def k9c2 : Code := { maxStack := 4, maxLocals := 1, code := jdk_43_method_46_code, exceptionTable := #[], attributes := #[] }
def k9m2 : Method := { name := "toBytes", desc := "(C)[B", sig := { parameters := [.char], returnType := some (.array .byte) }, accessFlags := 9, code := some k9c2 }
/-- java/lang/StringLatin1 -/
def k9 : Class := { plain "java/lang/StringLatin1" (some 0) with
  accessFlags := 48
  interfaces := #[]
  cf := some (fileOf pool9 14 #[.nestMembers #[390, 221]] #[{ accessFlags := 0, nameIndex := 7, descriptorIndex := 8, attributes := #[] }, { accessFlags := 9, nameIndex := 90, descriptorIndex := 105, attributes := #[] }, { accessFlags := 9, nameIndex := 380, descriptorIndex := 382, attributes := #[] }] 48 4 #[] #[{ accessFlags := 4120, nameIndex := 121, descriptorIndex := 122, attributes := #[] }])
  fields := #[{ name := "$assertionsDisabled", type := .boolean, accessFlags := 4120, slot := 0, constantValue := 0 }]
  methods := #[k9m0, k9m1, k9m2]
  instanceTypes := #[]
  staticTypes := #[.boolean]
  resolved := Array.replicate 395 none
  statics := none }

def pool10 : Array CpInfo := pool [(1, .methodref 2 3), (0, .class_ 4), (0, .nameAndType 5 6), (0, u "java/lang/Object"), (0, u "<init>"), (0, u "()V"), (0, .class_ 8), (0, u "java/util/ArrayList"), (0, .methodref 7 3), (0, .fieldref 11 12), (0, .class_ 13), (0, .nameAndType 14 15), (0, u "com/example/measured_reasoner/measuredreasoner/Summary"), (0, u "fields"), (0, u "Ljava/util/List;"), (0, .class_ 17), (0, u "com/example/measured_reasoner/measuredreasoner/Summary$Field"), (0, .methodref 19 20), (0, .class_ 21), (0, .nameAndType 22 23), (0, u "java/lang/Long"), (0, u "valueOf"), (0, u "(J)Ljava/lang/Long;"), (0, .methodref 16 25), (0, .nameAndType 5 26), (0, u "(Ljava/lang/String;Ljava/lang/Number;)V"), (0, .interfaceMethodref 28 29), (0, .class_ 30), (0, .nameAndType 31 32), (0, u "java/util/List"), (0, u "add"), (0, u "(Ljava/lang/Object;)Z"), (0, .methodref 34 35), (0, .class_ 36), (0, .nameAndType 22 37), (0, u "java/lang/Double"), (0, u "(D)Ljava/lang/Double;"), (0, .methodref 39 40), (0, .class_ 41), (0, .nameAndType 42 43), (0, u "java/util/Collections"), (0, u "unmodifiableList"), (0, u "(Ljava/util/List;)Ljava/util/List;"), (40, u "count"), (0, u "(Ljava/lang/String;J)Lcom/example/measured_reasoner/measuredreasoner/Summary;"), (0, u "mean"), (0, u "(Ljava/lang/String;D)Lcom/example/measured_reasoner/measuredreasoner/Summary;"), (0, u "()Ljava/util/List;")] 9

def k10c0 : Code := { maxStack := 3, maxLocals := 1, code := prog_19_method_1_code, exceptionTable := #[], attributes := #[] }
def k10m0 : Method := { name := "<init>", desc := "()V", sig := { parameters := [], returnType := none }, accessFlags := 0, code := some k10c0 }
def k10c1 : Code := { maxStack := 6, maxLocals := 4, code := prog_19_method_2_code, exceptionTable := #[], attributes := #[] }
def k10m1 : Method := { name := "count", desc := "(Ljava/lang/String;J)Lcom/example/measured_reasoner/measuredreasoner/Summary;", sig := { parameters := [(.object "java/lang/String"), .long], returnType := some (.object "com/example/measured_reasoner/measuredreasoner/Summary") }, accessFlags := 0, code := some k10c1 }
def k10c2 : Code := { maxStack := 6, maxLocals := 4, code := prog_19_method_3_code, exceptionTable := #[], attributes := #[] }
def k10m2 : Method := { name := "mean", desc := "(Ljava/lang/String;D)Lcom/example/measured_reasoner/measuredreasoner/Summary;", sig := { parameters := [(.object "java/lang/String"), .double], returnType := some (.object "com/example/measured_reasoner/measuredreasoner/Summary") }, accessFlags := 0, code := some k10c2 }
def k10c3 : Code := { maxStack := 1, maxLocals := 1, code := prog_19_method_4_code, exceptionTable := #[], attributes := #[] }
def k10m3 : Method := { name := "fields", desc := "()Ljava/util/List;", sig := { parameters := [], returnType := some (.object "java/util/List") }, accessFlags := 0, code := some k10c3 }
/-- com/example/measured_reasoner/measuredreasoner/Summary -/
def k10 : Class := { plain "com/example/measured_reasoner/measuredreasoner/Summary" (some 0) with
  accessFlags := 32
  interfaces := #[]
  cf := some (fileOf pool10 11 #[.nestMembers #[16]] #[{ accessFlags := 0, nameIndex := 5, descriptorIndex := 6, attributes := #[] }, { accessFlags := 0, nameIndex := 84, descriptorIndex := 85, attributes := #[] }, { accessFlags := 0, nameIndex := 86, descriptorIndex := 87, attributes := #[] }, { accessFlags := 0, nameIndex := 14, descriptorIndex := 88, attributes := #[] }] 32 2 #[] #[{ accessFlags := 18, nameIndex := 14, descriptorIndex := 15, attributes := #[] }])
  fields := #[{ name := "fields", type := (.object "java/util/List"), accessFlags := 18, slot := 0, constantValue := 0 }]
  methods := #[k10m0, k10m1, k10m2, k10m3]
  instanceTypes := #[(.object "java/util/List")]
  staticTypes := #[]
  resolved := Array.replicate 98 none
  statics := none }

def pool11 : Array CpInfo := pool [(8, .class_ 10), (1, u "java/lang/Iterable"), (24, .class_ 36), (0, u "java/lang/Object")] 25

/-- java/lang/Iterable -/
def k11 : Class := { plain "java/lang/Iterable" (some 0) with
  accessFlags := 1537
  interfaces := #[]
  cf := some (fileOf pool11 8 #[] #[] 1537 35 #[] #[])
  fields := #[]
  methods := #[]
  instanceTypes := #[]
  staticTypes := #[]
  resolved := Array.replicate 62 none
  statics := none }

def pool12 : Array CpInfo := pool [(10, .class_ 12), (1, u "java/util/Collection"), (47, .class_ 61), (0, u "java/lang/Object"), (0, .class_ 63), (0, u "java/lang/Iterable"), (0, u "size"), (0, u "()I")] 49

def k12m0 : Method := { name := "size", desc := "()I", sig := { parameters := [], returnType := some .int }, accessFlags := 1025, code := none }
/-- java/util/Collection -/
def k12 : Class := { plain "java/util/Collection" (some 0) with
  accessFlags := 1537
  interfaces := #[11]
  cf := some (fileOf pool12 10 #[] #[{ accessFlags := 1025, nameIndex := 64, descriptorIndex := 65, attributes := #[] }] 1537 60 #[62] #[])
  fields := #[]
  methods := #[k12m0]
  instanceTypes := #[]
  staticTypes := #[]
  resolved := Array.replicate 115 none
  statics := none }

def pool13 : Array CpInfo := pool [(1, .methodref 2 3), (0, .class_ 4), (0, .nameAndType 5 6), (0, u "java/lang/Object"), (0, u "<init>"), (0, u "()V"), (1, .class_ 10), (1, u "java/util/AbstractCollection"), (66, .class_ 78), (0, u "java/util/Collection")] 81

def k13c0 : Code := { maxStack := 1, maxLocals := 1, code := jdk_22_method_1_code, exceptionTable := #[], attributes := #[] }
def k13m0 : Method := { name := "<init>", desc := "()V", sig := { parameters := [], returnType := none }, accessFlags := 4, code := some k13c0 }
/-- java/util/AbstractCollection -/
def k13 : Class := { plain "java/util/AbstractCollection" (some 0) with
  accessFlags := 1057
  interfaces := #[12]
  cf := some (fileOf pool13 8 #[] #[{ accessFlags := 4, nameIndex := 5, descriptorIndex := 6, attributes := #[] }] 1057 2 #[77] #[])
  fields := #[]
  methods := #[k13m0]
  instanceTypes := #[]
  staticTypes := #[]
  resolved := Array.replicate 160 none
  statics := none }

def pool14 : Array CpInfo := pool [(8, .class_ 10), (1, u "java/util/SequencedCollection"), (15, .class_ 27), (0, u "java/lang/Object"), (0, .class_ 29), (0, u "java/util/Collection")] 27

/-- java/util/SequencedCollection -/
def k14 : Class := { plain "java/util/SequencedCollection" (some 0) with
  accessFlags := 1537
  interfaces := #[12]
  cf := some (fileOf pool14 8 #[] #[] 1537 26 #[28] #[])
  fields := #[]
  methods := #[]
  instanceTypes := #[]
  staticTypes := #[]
  resolved := Array.replicate 57 none
  statics := none }

def pool15 : Array CpInfo := pool [(8, .class_ 10), (1, u "java/util/List"), (49, u "add"), (3, u "(Ljava/lang/Object;)Z"), (10, u "get"), (0, u "(I)Ljava/lang/Object;"), (2, u "size"), (0, u "()I"), (22, .class_ 104), (0, u "java/lang/Object"), (15, .class_ 121), (0, u "java/util/SequencedCollection")] 129

def k15m0 : Method := { name := "size", desc := "()I", sig := { parameters := [], returnType := some .int }, accessFlags := 1025, code := none }
def k15m1 : Method := { name := "add", desc := "(Ljava/lang/Object;)Z", sig := { parameters := [(.object "java/lang/Object")], returnType := some .boolean }, accessFlags := 1025, code := none }
def k15m2 : Method := { name := "get", desc := "(I)Ljava/lang/Object;", sig := { parameters := [.int], returnType := some (.object "java/lang/Object") }, accessFlags := 1025, code := none }
/-- java/util/List -/
def k15 : Class := { plain "java/util/List" (some 0) with
  accessFlags := 1537
  interfaces := #[14]
  cf := some (fileOf pool15 8 #[] #[{ accessFlags := 1025, nameIndex := 79, descriptorIndex := 80, attributes := #[] }, { accessFlags := 1025, nameIndex := 60, descriptorIndex := 64, attributes := #[] }, { accessFlags := 1025, nameIndex := 75, descriptorIndex := 76, attributes := #[] }] 1537 103 #[120] #[])
  fields := #[]
  methods := #[k15m0, k15m1, k15m2]
  instanceTypes := #[]
  staticTypes := #[]
  resolved := Array.replicate 251 none
  statics := none }

def pool16 : Array CpInfo := pool [(1, .methodref 2 3), (0, .class_ 4), (0, .nameAndType 5 6), (0, u "java/util/AbstractCollection"), (0, u "<init>"), (0, u "()V"), (0, .fieldref 8 9), (0, .class_ 10), (0, .nameAndType 11 12), (0, u "java/util/AbstractList"), (0, u "modCount"), (0, u "I"), (64, .class_ 78), (0, u "java/util/AbstractList$Itr"), (3, .class_ 83), (0, u "java/util/AbstractList$ListItr"), (9, .class_ 94), (0, u "java/util/AbstractList$RandomAccessSubList"), (3, .class_ 99), (0, u "java/util/AbstractList$SubList"), (33, .class_ 134), (0, u "java/util/List"), (73, .class_ 209), (0, u "java/util/AbstractList$SubList$1"), (0, .class_ 211), (0, u "java/util/AbstractList$RandomAccessSpliterator")] 6

def k16c0 : Code := { maxStack := 2, maxLocals := 1, code := jdk_39_method_1_code, exceptionTable := #[], attributes := #[] }
def k16m0 : Method := { name := "<init>", desc := "()V", sig := { parameters := [], returnType := none }, accessFlags := 4, code := some k16c0 }
/-- java/util/AbstractList -/
def k16 : Class := { plain "java/util/AbstractList" (some 13) with
  accessFlags := 1057
  interfaces := #[15]
  cf := some (fileOf pool16 8 #[.nestMembers #[93, 98, 208, 210, 82, 77]] #[{ accessFlags := 4, nameIndex := 5, descriptorIndex := 6, attributes := #[] }] 1057 2 #[133] #[{ accessFlags := 132, nameIndex := 11, descriptorIndex := 12, attributes := #[] }])
  fields := #[{ name := "modCount", type := .int, accessFlags := 132, slot := 0, constantValue := 0 }]
  methods := #[k16m0]
  instanceTypes := #[.int]
  staticTypes := #[]
  resolved := Array.replicate 218 none
  statics := none }

def pool17 : Array CpInfo := pool [(1, .class_ 2), (0, u "java/util/RandomAccess"), (0, .class_ 4), (0, u "java/lang/Object")] 2

/-- java/util/RandomAccess -/
def k17 : Class := { plain "java/util/RandomAccess" (some 0) with
  accessFlags := 1537
  interfaces := #[]
  cf := some (fileOf pool17 1 #[] #[] 1537 3 #[] #[])
  fields := #[]
  methods := #[]
  instanceTypes := #[]
  staticTypes := #[]
  resolved := Array.replicate 7 none
  statics := none }

def pool18 : Array CpInfo := pool [(1, .class_ 2), (0, u "java/lang/Cloneable"), (0, .class_ 4), (0, u "java/lang/Object")] 2

/-- java/lang/Cloneable -/
def k18 : Class := { plain "java/lang/Cloneable" (some 0) with
  accessFlags := 1537
  interfaces := #[]
  cf := some (fileOf pool18 1 #[] #[] 1537 3 #[] #[])
  fields := #[]
  methods := #[]
  instanceTypes := #[]
  staticTypes := #[]
  resolved := Array.replicate 7 none
  statics := none }

def pool19 : Array CpInfo := pool [(1, .methodref 2 3), (0, .class_ 4), (0, .nameAndType 5 6), (0, u "java/util/AbstractList"), (0, u "<init>"), (0, u "()V"), (0, .class_ 8), (0, u "java/lang/Object"), (0, .fieldref 10 11), (0, .class_ 12), (0, .nameAndType 13 14), (0, u "java/util/ArrayList"), (0, u "elementData"), (0, u "[Ljava/lang/Object;"), (2, u "EMPTY_ELEMENTDATA"), (21, .fieldref 10 40), (0, .nameAndType 41 14), (0, u "DEFAULTCAPACITY_EMPTY_ELEMENTDATA"), (5, u "()[Ljava/lang/Object;"), (0, .fieldref 10 49), (0, .nameAndType 50 51), (0, u "size"), (0, u "I"), (11, .fieldref 10 64), (0, .nameAndType 65 51), (0, u "modCount"), (3, .methodref 10 70), (0, .nameAndType 71 72), (0, u "grow"), (0, u "(I)[Ljava/lang/Object;"), (6, .methodref 80 81), (0, .class_ 82), (0, .nameAndType 83 84), (0, u "java/lang/Math"), (0, u "max"), (0, u "(II)I"), (11, u "(Ljava/lang/Object;)Z"), (21, .methodref 119 120), (0, .class_ 121), (0, .nameAndType 122 84), (0, u "java/util/Objects"), (0, u "checkIndex"), (0, .methodref 10 124), (0, .nameAndType 13 125), (0, u "(I)Ljava/lang/Object;"), (3, .methodref 10 130), (0, .nameAndType 71 47), (0, .methodref 10 132), (0, .nameAndType 133 134), (0, u "add"), (0, u "(Ljava/lang/Object;[Ljava/lang/Object;I)V"), (13, .class_ 149), (0, u "java/util/List"), (36, u "()I"), (75, .class_ 263), (0, u "java/util/ArrayList$ListItr"), (3, .class_ 268), (0, u "java/util/ArrayList$Itr"), (7, .class_ 277), (0, u "java/util/ArrayList$SubList"), (12, .class_ 291), (0, u "java/util/ArrayList$ArrayListSpliterator"), (37, .class_ 330), (0, u "java/util/RandomAccess"), (0, .class_ 332), (0, u "java/lang/Cloneable"), (0, .class_ 334), (0, u "java/io/Serializable"), (0, u "serialVersionUID"), (0, u "J"), (3, u "DEFAULT_CAPACITY"), (40, u "get"), (118, .class_ 501), (0, u "java/util/ArrayList$SubList$2"), (0, .class_ 503), (0, u "java/util/ArrayList$SubList$1")] 5

def k19c0 : Code := { maxStack := 2, maxLocals := 1, code := jdk_38_method_2_code, exceptionTable := #[], attributes := #[] }
def k19m0 : Method := { name := "<init>", desc := "()V", sig := { parameters := [], returnType := none }, accessFlags := 1, code := some k19c0 }
def k19c1 : Code := { maxStack := 4, maxLocals := 4, code := jdk_38_method_6_code, exceptionTable := #[], attributes := #[] }
def k19m1 : Method := { name := "grow", desc := "(I)[Ljava/lang/Object;", sig := { parameters := [.int], returnType := some (.array (.object "java/lang/Object")) }, accessFlags := 2, code := some k19c1 }
def k19c2 : Code := { maxStack := 3, maxLocals := 1, code := jdk_38_method_7_code, exceptionTable := #[], attributes := #[] }
def k19m2 : Method := { name := "grow", desc := "()[Ljava/lang/Object;", sig := { parameters := [], returnType := some (.array (.object "java/lang/Object")) }, accessFlags := 2, code := some k19c2 }
def k19c3 : Code := { maxStack := 1, maxLocals := 1, code := jdk_38_method_8_code, exceptionTable := #[], attributes := #[] }
def k19m3 : Method := { name := "size", desc := "()I", sig := { parameters := [], returnType := some .int }, accessFlags := 1, code := some k19c3 }
def k19c4 : Code := { maxStack := 2, maxLocals := 2, code := jdk_38_method_18_code, exceptionTable := #[], attributes := #[] }
def k19m4 : Method := { name := "elementData", desc := "(I)Ljava/lang/Object;", sig := { parameters := [.int], returnType := some (.object "java/lang/Object") }, accessFlags := 0, code := some k19c4 }
def k19c5 : Code := { maxStack := 2, maxLocals := 2, code := jdk_38_method_20_code, exceptionTable := #[], attributes := #[] }
def k19m5 : Method := { name := "get", desc := "(I)Ljava/lang/Object;", sig := { parameters := [.int], returnType := some (.object "java/lang/Object") }, accessFlags := 1, code := some k19c5 }
def k19c6 : Code := { maxStack := 3, maxLocals := 4, code := jdk_38_method_24_code, exceptionTable := #[], attributes := #[] }
def k19m6 : Method := { name := "add", desc := "(Ljava/lang/Object;[Ljava/lang/Object;I)V", sig := { parameters := [(.object "java/lang/Object"), (.array (.object "java/lang/Object")), .int], returnType := none }, accessFlags := 2, code := some k19c6 }
def k19c7 : Code := { maxStack := 4, maxLocals := 2, code := jdk_38_method_25_code, exceptionTable := #[], attributes := #[] }
def k19m7 : Method := { name := "add", desc := "(Ljava/lang/Object;)Z", sig := { parameters := [(.object "java/lang/Object")], returnType := some .boolean }, accessFlags := 1, code := some k19c7 }
/-- java/util/ArrayList -/
def k19 : Class := { plain "java/util/ArrayList" (some 16) with
  accessFlags := 33
  interfaces := #[15, 17, 18, 2]
  cf := some (fileOf pool19 10 #[.nestMembers #[290, 276, 500, 502, 262, 267]] #[{ accessFlags := 1, nameIndex := 5, descriptorIndex := 6, attributes := #[] }, { accessFlags := 2, nameIndex := 71, descriptorIndex := 72, attributes := #[] }, { accessFlags := 2, nameIndex := 71, descriptorIndex := 47, attributes := #[] }, { accessFlags := 1, nameIndex := 50, descriptorIndex := 186, attributes := #[] }, { accessFlags := 0, nameIndex := 13, descriptorIndex := 125, attributes := #[] }, { accessFlags := 1, nameIndex := 381, descriptorIndex := 125, attributes := #[] }, { accessFlags := 2, nameIndex := 133, descriptorIndex := 134, attributes := #[] }, { accessFlags := 1, nameIndex := 133, descriptorIndex := 96, attributes := #[] }] 33 2 #[148, 329, 331, 333] #[{ accessFlags := 26, nameIndex := 335, descriptorIndex := 336, attributes := #[] }, { accessFlags := 26, nameIndex := 340, descriptorIndex := 51, attributes := #[] }, { accessFlags := 26, nameIndex := 17, descriptorIndex := 14, attributes := #[] }, { accessFlags := 26, nameIndex := 41, descriptorIndex := 14, attributes := #[] }, { accessFlags := 128, nameIndex := 13, descriptorIndex := 14, attributes := #[] }, { accessFlags := 2, nameIndex := 50, descriptorIndex := 51, attributes := #[] }])
  fields := #[{ name := "serialVersionUID", type := .long, accessFlags := 26, slot := 0, constantValue := 0 }, { name := "DEFAULT_CAPACITY", type := .int, accessFlags := 26, slot := 1, constantValue := 0 }, { name := "EMPTY_ELEMENTDATA", type := (.array (.object "java/lang/Object")), accessFlags := 26, slot := 2, constantValue := 0 }, { name := "DEFAULTCAPACITY_EMPTY_ELEMENTDATA", type := (.array (.object "java/lang/Object")), accessFlags := 26, slot := 3, constantValue := 0 }, { name := "elementData", type := (.array (.object "java/lang/Object")), accessFlags := 128, slot := 1, constantValue := 0 }, { name := "size", type := .int, accessFlags := 2, slot := 2, constantValue := 0 }]
  methods := #[k19m0, k19m1, k19m2, k19m3, k19m4, k19m5, k19m6, k19m7]
  instanceTypes := #[.int, (.array (.object "java/lang/Object")), .int]
  staticTypes := #[.long, .int, (.array (.object "java/lang/Object")), (.array (.object "java/lang/Object"))]
  resolved := Array.replicate 509 none
  mirror := some 4
  statics := some 1 }

def pool20 : Array CpInfo := pool [(1, .methodref 2 3), (0, .class_ 4), (0, .nameAndType 5 6), (0, u "java/lang/Object"), (0, u "<init>"), (0, u "()V"), (0, .class_ 8), (0, u "java/lang/Record")] 13

def k20c0 : Code := { maxStack := 1, maxLocals := 1, code := jdk_30_method_1_code, exceptionTable := #[], attributes := #[] }
def k20m0 : Method := { name := "<init>", desc := "()V", sig := { parameters := [], returnType := none }, accessFlags := 4, code := some k20c0 }
/-- java/lang/Record -/
def k20 : Class := { plain "java/lang/Record" (some 0) with
  accessFlags := 1057
  interfaces := #[]
  cf := some (fileOf pool20 7 #[] #[{ accessFlags := 4, nameIndex := 5, descriptorIndex := 6, attributes := #[] }] 1057 2 #[] #[])
  fields := #[]
  methods := #[k20m0]
  instanceTypes := #[]
  staticTypes := #[]
  resolved := Array.replicate 22 none
  statics := none }

def pool21 : Array CpInfo := pool [(1, .methodref 2 3), (0, .class_ 4), (0, .nameAndType 5 6), (0, u "java/lang/Record"), (0, u "<init>"), (0, u "()V"), (0, .fieldref 8 9), (0, .class_ 10), (0, .nameAndType 11 12), (0, u "com/example/measured_reasoner/measuredreasoner/Summary$Field"), (0, u "name"), (0, u "Ljava/lang/String;"), (0, .fieldref 8 14), (0, .nameAndType 15 16), (0, u "value"), (0, u "Ljava/lang/Number;"), (21, u "()Ljava/lang/String;"), (18, u "(Ljava/lang/String;Ljava/lang/Number;)V"), (5, u "()Ljava/lang/Number;"), (7, .class_ 72), (0, u "com/example/measured_reasoner/measuredreasoner/Summary")] 20

def k21c0 : Code := { maxStack := 2, maxLocals := 3, code := prog_20_method_1_code, exceptionTable := #[], attributes := #[] }
def k21m0 : Method := { name := "<init>", desc := "(Ljava/lang/String;Ljava/lang/Number;)V", sig := { parameters := [(.object "java/lang/String"), (.object "java/lang/Number")], returnType := none }, accessFlags := 0, code := some k21c0 }
def k21c1 : Code := { maxStack := 1, maxLocals := 1, code := prog_20_method_7_code, exceptionTable := #[], attributes := #[] }
def k21m1 : Method := { name := "name", desc := "()Ljava/lang/String;", sig := { parameters := [], returnType := some (.object "java/lang/String") }, accessFlags := 1, code := some k21c1 }
def k21c2 : Code := { maxStack := 1, maxLocals := 1, code := prog_20_method_8_code, exceptionTable := #[], attributes := #[] }
def k21m2 : Method := { name := "value", desc := "()Ljava/lang/Number;", sig := { parameters := [], returnType := some (.object "java/lang/Number") }, accessFlags := 1, code := some k21c2 }
/-- com/example/measured_reasoner/measuredreasoner/Summary$Field -/
def k21 : Class := { plain "com/example/measured_reasoner/measuredreasoner/Summary$Field" (some 20) with
  accessFlags := 48
  interfaces := #[]
  cf := some (fileOf pool21 8 #[.nestHost 71] #[{ accessFlags := 0, nameIndex := 5, descriptorIndex := 57, attributes := #[] }, { accessFlags := 1, nameIndex := 11, descriptorIndex := 38, attributes := #[] }, { accessFlags := 1, nameIndex := 15, descriptorIndex := 63, attributes := #[] }] 48 2 #[] #[{ accessFlags := 18, nameIndex := 11, descriptorIndex := 12, attributes := #[] }, { accessFlags := 18, nameIndex := 15, descriptorIndex := 16, attributes := #[] }])
  fields := #[{ name := "name", type := (.object "java/lang/String"), accessFlags := 18, slot := 0, constantValue := 0 }, { name := "value", type := (.object "java/lang/Number"), accessFlags := 18, slot := 1, constantValue := 0 }]
  methods := #[k21m0, k21m1, k21m2]
  instanceTypes := #[(.object "java/lang/String"), (.object "java/lang/Number")]
  staticTypes := #[]
  resolved := Array.replicate 93 none
  statics := none }

def pool22 : Array CpInfo := pool [(1, .methodref 2 3), (0, .class_ 4), (0, .nameAndType 5 6), (0, u "java/lang/Object"), (0, u "<init>"), (0, u "()V"), (1, .class_ 10), (1, u "java/lang/Number"), (2, .class_ 14), (0, u "java/io/Serializable"), (0, u "serialVersionUID"), (0, u "J")] 20

def k22c0 : Code := { maxStack := 1, maxLocals := 1, code := jdk_18_method_1_code, exceptionTable := #[], attributes := #[] }
def k22m0 : Method := { name := "<init>", desc := "()V", sig := { parameters := [], returnType := none }, accessFlags := 1, code := some k22c0 }
/-- java/lang/Number -/
def k22 : Class := { plain "java/lang/Number" (some 0) with
  accessFlags := 1057
  interfaces := #[2]
  cf := some (fileOf pool22 8 #[] #[{ accessFlags := 1, nameIndex := 5, descriptorIndex := 6, attributes := #[] }] 1057 2 #[13] #[{ accessFlags := 26, nameIndex := 15, descriptorIndex := 16, attributes := #[] }])
  fields := #[{ name := "serialVersionUID", type := .long, accessFlags := 26, slot := 0, constantValue := 0 }]
  methods := #[k22m0]
  instanceTypes := #[]
  staticTypes := #[.long]
  resolved := Array.replicate 37 none
  statics := none }

def pool23 : Array CpInfo := pool [(1, .class_ 2), (0, u "java/lang/Double"), (17, u "<init>"), (84, .methodref 1 106), (0, .nameAndType 20 107), (0, u "(D)V"), (5, .methodref 114 115), (0, .class_ 116), (0, .nameAndType 20 117), (0, u "java/lang/Number"), (0, u "()V"), (0, .fieldref 1 119), (0, .nameAndType 120 121), (0, u "value"), (0, u "D"), (51, u "TYPE"), (0, u "Ljava/lang/Class;"), (0, .class_ 176), (0, u "java/lang/Comparable"), (0, .class_ 178), (0, u "java/lang/constant/Constable"), (0, .class_ 180), (0, u "java/lang/constant/ConstantDesc"), (0, u "POSITIVE_INFINITY"), (3, u "NEGATIVE_INFINITY"), (2, u "NaN"), (2, u "MAX_VALUE"), (0, u "MIN_NORMAL"), (0, u "MIN_VALUE"), (2, u "SIZE"), (0, u "I"), (1, u "PRECISION"), (1, u "MAX_EXPONENT"), (1, u "MIN_EXPONENT"), (1, u "BYTES"), (3, u "serialVersionUID"), (0, u "J"), (14, u "valueOf"), (5, u "(D)Ljava/lang/Double;"), (23, u "doubleValue"), (0, u "()D")] 33

def k23c0 : Code := { maxStack := 4, maxLocals := 2, code := jdk_117_method_4_code, exceptionTable := #[], attributes := #[] }
def k23m0 : Method := { name := "valueOf", desc := "(D)Ljava/lang/Double;", sig := { parameters := [.double], returnType := some (.object "java/lang/Double") }, accessFlags := 9, code := some k23c0 }
def k23c1 : Code := { maxStack := 3, maxLocals := 3, code := jdk_117_method_9_code, exceptionTable := #[], attributes := #[] }
def k23m1 : Method := { name := "<init>", desc := "(D)V", sig := { parameters := [.double], returnType := none }, accessFlags := 1, code := some k23c1 }
def k23c2 : Code := { maxStack := 2, maxLocals := 1, code := jdk_117_method_19_code, exceptionTable := #[], attributes := #[] }
def k23m2 : Method := { name := "doubleValue", desc := "()D", sig := { parameters := [], returnType := some .double }, accessFlags := 1, code := some k23c2 }
/-- java/lang/Double -/
def k23 : Class := { plain "java/lang/Double" (some 22) with
  accessFlags := 49
  interfaces := #[3, 5, 6]
  cf := some (fileOf pool23 1 #[] #[{ accessFlags := 9, nameIndex := 225, descriptorIndex := 231, attributes := #[] }, { accessFlags := 1, nameIndex := 20, descriptorIndex := 107, attributes := #[] }, { accessFlags := 1, nameIndex := 255, descriptorIndex := 256, attributes := #[] }] 49 114 #[175, 177, 179] #[{ accessFlags := 25, nameIndex := 181, descriptorIndex := 121, attributes := #[] }, { accessFlags := 25, nameIndex := 185, descriptorIndex := 121, attributes := #[] }, { accessFlags := 25, nameIndex := 188, descriptorIndex := 121, attributes := #[] }, { accessFlags := 25, nameIndex := 191, descriptorIndex := 121, attributes := #[] }, { accessFlags := 25, nameIndex := 192, descriptorIndex := 121, attributes := #[] }, { accessFlags := 25, nameIndex := 193, descriptorIndex := 121, attributes := #[] }, { accessFlags := 25, nameIndex := 196, descriptorIndex := 197, attributes := #[] }, { accessFlags := 25, nameIndex := 199, descriptorIndex := 197, attributes := #[] }, { accessFlags := 25, nameIndex := 201, descriptorIndex := 197, attributes := #[] }, { accessFlags := 25, nameIndex := 203, descriptorIndex := 197, attributes := #[] }, { accessFlags := 25, nameIndex := 205, descriptorIndex := 197, attributes := #[] }, { accessFlags := 25, nameIndex := 173, descriptorIndex := 174, attributes := #[] }, { accessFlags := 18, nameIndex := 120, descriptorIndex := 121, attributes := #[] }, { accessFlags := 26, nameIndex := 209, descriptorIndex := 210, attributes := #[] }])
  fields := #[{ name := "POSITIVE_INFINITY", type := .double, accessFlags := 25, slot := 0, constantValue := 0 }, { name := "NEGATIVE_INFINITY", type := .double, accessFlags := 25, slot := 1, constantValue := 0 }, { name := "NaN", type := .double, accessFlags := 25, slot := 2, constantValue := 0 }, { name := "MAX_VALUE", type := .double, accessFlags := 25, slot := 3, constantValue := 0 }, { name := "MIN_NORMAL", type := .double, accessFlags := 25, slot := 4, constantValue := 0 }, { name := "MIN_VALUE", type := .double, accessFlags := 25, slot := 5, constantValue := 0 }, { name := "SIZE", type := .int, accessFlags := 25, slot := 6, constantValue := 0 }, { name := "PRECISION", type := .int, accessFlags := 25, slot := 7, constantValue := 0 }, { name := "MAX_EXPONENT", type := .int, accessFlags := 25, slot := 8, constantValue := 0 }, { name := "MIN_EXPONENT", type := .int, accessFlags := 25, slot := 9, constantValue := 0 }, { name := "BYTES", type := .int, accessFlags := 25, slot := 10, constantValue := 0 }, { name := "TYPE", type := (.object "java/lang/Class"), accessFlags := 25, slot := 11, constantValue := 0 }, { name := "value", type := .double, accessFlags := 18, slot := 0, constantValue := 0 }, { name := "serialVersionUID", type := .long, accessFlags := 26, slot := 12, constantValue := 0 }]
  methods := #[k23m0, k23m1, k23m2]
  instanceTypes := #[.double]
  staticTypes := #[.double, .double, .double, .double, .double, .double, .int, .int, .int, .int, .int, (.object "java/lang/Class"), .long]
  resolved := Array.replicate 290 none
  statics := none }

def pool24 : Array CpInfo := pool [(1, .class_ 2), (0, u "java/lang/Math"), (1, .class_ 6), (1, u "java/lang/Object"), (0, u "<init>"), (0, u "()V"), (89, .class_ 100), (1, u "java/lang/Math$RandomNumberGeneratorHolder"), (71, u "negativeZeroFloatBits"), (0, u "J"), (2, u "negativeZeroDoubleBits"), (21, u "max"), (46, u "$assertionsDisabled"), (0, u "Z"), (88, u "(II)I"), (2, u "twoToTheDoubleScaleDown"), (0, u "D"), (4, u "twoToTheDoubleScaleUp"), (9, u "E"), (3, u "PI"), (2, u "TAU"), (2, u "DEGREES_TO_RADIANS"), (0, u "RADIANS_TO_DEGREES")] 94

def k24m0 : Method := { name := "<init>", desc := "()V", sig := { parameters := [], returnType := none }, accessFlags := 2, code := none }
def k24c1 : Code := { maxStack := 2, maxLocals := 2, code := jdk_29_method_65_code, exceptionTable := #[], attributes := #[] }
def k24m1 : Method := { name := "max", desc := "(II)I", sig := { parameters := [.int, .int], returnType := some .int }, accessFlags := 9, code := some k24c1 }
/-- java/lang/Math -/
def k24 : Class := { plain "java/lang/Math" (some 0) with
  accessFlags := 49
  interfaces := #[]
  cf := some (fileOf pool24 1 #[.nestMembers #[98]] #[{ accessFlags := 2, nameIndex := 7, descriptorIndex := 8, attributes := #[] }, { accessFlags := 9, nameIndex := 198, descriptorIndex := 335, attributes := #[] }] 49 4 #[] #[{ accessFlags := 25, nameIndex := 354, descriptorIndex := 339, attributes := #[] }, { accessFlags := 25, nameIndex := 358, descriptorIndex := 339, attributes := #[] }, { accessFlags := 25, nameIndex := 361, descriptorIndex := 339, attributes := #[] }, { accessFlags := 26, nameIndex := 364, descriptorIndex := 339, attributes := #[] }, { accessFlags := 26, nameIndex := 365, descriptorIndex := 339, attributes := #[] }, { accessFlags := 26, nameIndex := 172, descriptorIndex := 173, attributes := #[] }, { accessFlags := 26, nameIndex := 176, descriptorIndex := 173, attributes := #[] }, { accessFlags := 8, nameIndex := 344, descriptorIndex := 339, attributes := #[] }, { accessFlags := 8, nameIndex := 338, descriptorIndex := 339, attributes := #[] }, { accessFlags := 4120, nameIndex := 245, descriptorIndex := 246, attributes := #[] }])
  fields := #[{ name := "E", type := .double, accessFlags := 25, slot := 0, constantValue := 0 }, { name := "PI", type := .double, accessFlags := 25, slot := 1, constantValue := 0 }, { name := "TAU", type := .double, accessFlags := 25, slot := 2, constantValue := 0 }, { name := "DEGREES_TO_RADIANS", type := .double, accessFlags := 26, slot := 3, constantValue := 0 }, { name := "RADIANS_TO_DEGREES", type := .double, accessFlags := 26, slot := 4, constantValue := 0 }, { name := "negativeZeroFloatBits", type := .long, accessFlags := 26, slot := 5, constantValue := 0 }, { name := "negativeZeroDoubleBits", type := .long, accessFlags := 26, slot := 6, constantValue := 0 }, { name := "twoToTheDoubleScaleUp", type := .double, accessFlags := 8, slot := 7, constantValue := 0 }, { name := "twoToTheDoubleScaleDown", type := .double, accessFlags := 8, slot := 8, constantValue := 0 }, { name := "$assertionsDisabled", type := .boolean, accessFlags := 4120, slot := 9, constantValue := 0 }]
  methods := #[k24m0, k24m1]
  instanceTypes := #[]
  staticTypes := #[.double, .double, .double, .double, .double, .long, .long, .double, .double, .boolean]
  resolved := Array.replicate 460 none
  statics := none }

def pool25 : Array CpInfo := pool [(2, .class_ 4), (1, u "java/lang/Object"), (0, u "<init>"), (0, u "()V"), (1, .class_ 10), (1, u "java/util/List"), (2, .class_ 14), (0, u "java/util/RandomAccess"), (4, .class_ 20), (0, u "java/util/Collections"), (63, u "r"), (0, u "Ljava/util/Random;"), (67, u "(Ljava/util/List;)V"), (9, .nameAndType 164 165), (0, u "getClass"), (0, u "()Ljava/lang/Class;"), (0, .class_ 167), (0, u "java/util/Collections$UnmodifiableCollection"), (6, .class_ 175), (0, u "java/util/Collections$UnmodifiableSequencedCollection"), (6, .class_ 183), (0, u "java/util/Collections$UnmodifiableSet"), (6, .class_ 191), (0, u "java/util/Collections$UnmodifiableSequencedSet"), (6, .class_ 199), (0, u "java/util/Collections$UnmodifiableSortedSet"), (6, .class_ 207), (0, u "java/util/Collections$UnmodifiableNavigableSet"), (3, .interfaceMethodref 8 163), (0, .class_ 213), (0, u "java/util/Collections$UnmodifiableList"), (0, .interfaceMethodref 8 163), (0, .class_ 216), (0, u "java/util/Collections$UnmodifiableRandomAccessList"), (0, .methodref 215 218), (0, .nameAndType 5 153), (4, .class_ 224), (0, u "java/util/Collections$UnmodifiableMap"), (6, .class_ 232), (0, u "java/util/Collections$UnmodifiableSequencedMap"), (4, .class_ 238), (0, u "java/util/Collections$UnmodifiableSortedMap"), (6, .class_ 246), (0, u "java/util/Collections$UnmodifiableNavigableMap"), (3, .class_ 251), (0, u "java/util/Collections$SynchronizedCollection"), (4, .class_ 257), (0, u "java/util/Collections$SynchronizedSet"), (4, .class_ 263), (0, u "java/util/Collections$SynchronizedSortedSet"), (1, .class_ 266), (0, u "java/util/Collections$SynchronizedNavigableSet"), (1, .class_ 269), (0, u "java/util/Collections$SynchronizedRandomAccessList"), (1, .class_ 272), (0, u "java/util/Collections$SynchronizedList"), (5, .class_ 279), (0, u "java/util/Collections$SynchronizedMap"), (1, .class_ 282), (0, u "java/util/Collections$SynchronizedSortedMap"), (1, .class_ 285), (0, u "java/util/Collections$SynchronizedNavigableMap"), (1, .class_ 288), (0, u "java/util/Collections$CheckedCollection"), (11, .class_ 301), (0, u "java/util/Collections$CheckedQueue"), (3, .class_ 306), (0, u "java/util/Collections$CheckedSet"), (3, .class_ 311), (0, u "java/util/Collections$CheckedSortedSet"), (3, .class_ 316), (0, u "java/util/Collections$CheckedNavigableSet"), (3, .class_ 321), (0, u "java/util/Collections$CheckedRandomAccessList"), (3, .class_ 326), (0, u "java/util/Collections$CheckedList"), (1, .class_ 329), (0, u "java/util/Collections$CheckedMap"), (3, .class_ 334), (0, u "java/util/Collections$CheckedSortedMap"), (3, .class_ 339), (0, u "java/util/Collections$CheckedNavigableMap"), (4, .class_ 346), (1, u "java/util/Collections$EmptyIterator"), (3, .class_ 352), (1, u "java/util/Collections$EmptyListIterator"), (2, .class_ 357), (1, u "java/util/Collections$EmptyEnumeration"), (4, u "EMPTY_SET"), (0, u "Ljava/util/Set;"), (6, u "EMPTY_LIST"), (0, u "Ljava/util/List;"), (2, u "EMPTY_MAP"), (0, u "Ljava/util/Map;"), (4, .class_ 381), (0, u "java/util/Collections$SingletonSet"), (2, .class_ 385), (0, u "java/util/Collections$1"), (1, .class_ 388), (0, u "java/util/Collections$2"), (1, .class_ 391), (0, u "java/util/Collections$SingletonList"), (1, .class_ 394), (0, u "java/util/Collections$SingletonMap"), (22, .class_ 418), (0, u "java/util/Collections$CopiesList"), (4, .class_ 425), (1, u "java/util/Collections$ReverseComparator"), (8, .class_ 435), (0, u "java/util/Collections$ReverseComparator2"), (6, .class_ 443), (0, u "java/util/Collections$3"), (25, .class_ 470), (0, u "java/util/Collections$SetFromMap"), (2, .class_ 474), (0, u "java/util/Collections$SequencedSetFromMap"), (3, .class_ 479), (0, u "java/util/Collections$AsLIFOQueue"), (11, .class_ 492), (0, u "java/util/Collections$EmptySet"), (1, .class_ 495), (0, u "java/util/Collections$EmptyList"), (1, .class_ 498), (0, u "java/util/Collections$EmptyMap"), (1, u "BINARYSEARCH_THRESHOLD"), (0, u "I"), (2, u "REVERSE_THRESHOLD"), (1, u "SHUFFLE_THRESHOLD"), (1, u "FILL_THRESHOLD"), (1, u "ROTATE_THRESHOLD"), (1, u "COPY_THRESHOLD"), (1, u "REPLACEALL_THRESHOLD"), (1, u "INDEXOFSUBLIST_THRESHOLD"), (129, u "unmodifiableList"), (0, u "(Ljava/util/List;)Ljava/util/List;"), (202, .class_ 851), (0, u "java/util/Collections$CheckedMap$CheckedEntrySet"), (0, .class_ 853), (0, u "java/util/Collections$CheckedMap$CheckedEntrySet$CheckedEntry"), (0, .class_ 855), (0, u "java/util/Collections$CheckedMap$CheckedEntrySet$1"), (0, .class_ 857), (0, u "java/util/Collections$CheckedList$1"), (0, .class_ 859), (0, u "java/util/Collections$CheckedCollection$1"), (0, .class_ 861), (0, u "java/util/Collections$UnmodifiableNavigableMap$EmptyNavigableMap"), (0, .class_ 863), (0, u "java/util/Collections$UnmodifiableMap$UnmodifiableEntrySet"), (0, .class_ 865), (0, u "java/util/Collections$UnmodifiableMap$UnmodifiableEntrySet$UnmodifiableEntry"), (0, .class_ 867), (0, u "java/util/Collections$UnmodifiableMap$UnmodifiableEntrySet$UnmodifiableEntrySetSpliterator"), (0, .class_ 869), (0, u "java/util/Collections$UnmodifiableMap$UnmodifiableEntrySet$1"), (0, .class_ 871), (0, u "java/util/Collections$UnmodifiableList$1"), (0, .class_ 873), (0, u "java/util/Collections$UnmodifiableNavigableSet$EmptyNavigableSet"), (0, .class_ 875), (0, u "java/util/Collections$UnmodifiableCollection$1")] 57

def k25m0 : Method := { name := "<init>", desc := "()V", sig := { parameters := [], returnType := none }, accessFlags := 2, code := none }
def k25c1 : Code := { maxStack := 3, maxLocals := 1, code := jdk_79_method_35_code, exceptionTable := #[], attributes := #[] }
def k25m1 : Method := { name := "unmodifiableList", desc := "(Ljava/util/List;)Ljava/util/List;", sig := { parameters := [(.object "java/util/List")], returnType := some (.object "java/util/List") }, accessFlags := 9, code := some k25c1 }
/-- java/util/Collections -/
def k25 : Class := { plain "java/util/Collections" (some 0) with
  accessFlags := 33
  interfaces := #[]
  cf := some (fileOf pool25 19 #[.nestMembers #[478, 473, 469, 434, 423, 417, 393, 390, 380, 497, 494, 491, 355, 350, 344, 338, 333, 328, 850, 852, 854, 320, 325, 856, 315, 310, 305, 300, 287, 858, 284, 281, 278, 268, 271, 265, 262, 256, 250, 245, 860, 237, 231, 223, 862, 864, 866, 868, 215, 212, 870, 206, 872, 198, 190, 182, 174, 166, 874, 442, 387, 384]] #[{ accessFlags := 2, nameIndex := 5, descriptorIndex := 6, attributes := #[] }, { accessFlags := 9, nameIndex := 646, descriptorIndex := 647, attributes := #[] }] 33 2 #[] #[{ accessFlags := 26, nameIndex := 500, descriptorIndex := 501, attributes := #[] }, { accessFlags := 26, nameIndex := 504, descriptorIndex := 501, attributes := #[] }, { accessFlags := 26, nameIndex := 506, descriptorIndex := 501, attributes := #[] }, { accessFlags := 26, nameIndex := 508, descriptorIndex := 501, attributes := #[] }, { accessFlags := 26, nameIndex := 510, descriptorIndex := 501, attributes := #[] }, { accessFlags := 26, nameIndex := 512, descriptorIndex := 501, attributes := #[] }, { accessFlags := 26, nameIndex := 514, descriptorIndex := 501, attributes := #[] }, { accessFlags := 26, nameIndex := 516, descriptorIndex := 501, attributes := #[] }, { accessFlags := 10, nameIndex := 84, descriptorIndex := 85, attributes := #[] }, { accessFlags := 25, nameIndex := 362, descriptorIndex := 363, attributes := #[] }, { accessFlags := 25, nameIndex := 370, descriptorIndex := 371, attributes := #[] }, { accessFlags := 25, nameIndex := 374, descriptorIndex := 375, attributes := #[] }])
  fields := #[{ name := "BINARYSEARCH_THRESHOLD", type := .int, accessFlags := 26, slot := 0, constantValue := 0 }, { name := "REVERSE_THRESHOLD", type := .int, accessFlags := 26, slot := 1, constantValue := 0 }, { name := "SHUFFLE_THRESHOLD", type := .int, accessFlags := 26, slot := 2, constantValue := 0 }, { name := "FILL_THRESHOLD", type := .int, accessFlags := 26, slot := 3, constantValue := 0 }, { name := "ROTATE_THRESHOLD", type := .int, accessFlags := 26, slot := 4, constantValue := 0 }, { name := "COPY_THRESHOLD", type := .int, accessFlags := 26, slot := 5, constantValue := 0 }, { name := "REPLACEALL_THRESHOLD", type := .int, accessFlags := 26, slot := 6, constantValue := 0 }, { name := "INDEXOFSUBLIST_THRESHOLD", type := .int, accessFlags := 26, slot := 7, constantValue := 0 }, { name := "r", type := (.object "java/util/Random"), accessFlags := 10, slot := 8, constantValue := 0 }, { name := "EMPTY_SET", type := (.object "java/util/Set"), accessFlags := 25, slot := 9, constantValue := 0 }, { name := "EMPTY_LIST", type := (.object "java/util/List"), accessFlags := 25, slot := 10, constantValue := 0 }, { name := "EMPTY_MAP", type := (.object "java/util/Map"), accessFlags := 25, slot := 11, constantValue := 0 }]
  methods := #[k25m0, k25m1]
  instanceTypes := #[]
  staticTypes := #[.int, .int, .int, .int, .int, .int, .int, .int, (.object "java/util/Random"), (.object "java/util/Set"), (.object "java/util/List"), (.object "java/util/Map")]
  resolved := Array.replicate 933 none
  statics := none }

def pool26 : Array CpInfo := pool [(1, .methodref 2 3), (0, .class_ 4), (0, .nameAndType 5 6), (0, u "java/lang/Object"), (0, u "<init>"), (0, u "()V"), (3, .fieldref 11 12), (0, .class_ 13), (0, .nameAndType 14 15), (0, u "java/util/Collections$UnmodifiableCollection"), (0, u "c"), (0, u "Ljava/util/Collection;"), (0, .interfaceMethodref 17 18), (0, .class_ 19), (0, .nameAndType 20 21), (0, u "java/util/Collection"), (0, u "size"), (0, u "()I"), (49, .class_ 72), (0, u "java/io/Serializable"), (0, u "serialVersionUID"), (0, u "J"), (5, u "(Ljava/util/Collection;)V"), (51, .class_ 133), (0, u "java/util/Collections")] 2

def k26c0 : Code := { maxStack := 2, maxLocals := 2, code := jdk_119_method_1_code, exceptionTable := #[], attributes := #[] }
def k26m0 : Method := { name := "<init>", desc := "(Ljava/util/Collection;)V", sig := { parameters := [(.object "java/util/Collection")], returnType := none }, accessFlags := 0, code := some k26c0 }
def k26c1 : Code := { maxStack := 1, maxLocals := 1, code := jdk_119_method_2_code, exceptionTable := #[], attributes := #[] }
def k26m1 : Method := { name := "size", desc := "()I", sig := { parameters := [], returnType := some .int }, accessFlags := 1, code := some k26c1 }
/-- java/util/Collections$UnmodifiableCollection -/
def k26 : Class := { plain "java/util/Collections$UnmodifiableCollection" (some 0) with
  accessFlags := 32
  interfaces := #[12, 2]
  cf := some (fileOf pool26 11 #[.nestHost 132] #[{ accessFlags := 0, nameIndex := 5, descriptorIndex := 80, attributes := #[] }, { accessFlags := 1, nameIndex := 20, descriptorIndex := 21, attributes := #[] }] 32 2 #[17, 71] #[{ accessFlags := 26, nameIndex := 73, descriptorIndex := 74, attributes := #[] }, { accessFlags := 16, nameIndex := 14, descriptorIndex := 15, attributes := #[] }])
  fields := #[{ name := "serialVersionUID", type := .long, accessFlags := 26, slot := 0, constantValue := 0 }, { name := "c", type := (.object "java/util/Collection"), accessFlags := 16, slot := 0, constantValue := 0 }]
  methods := #[k26m0, k26m1]
  instanceTypes := #[(.object "java/util/Collection")]
  staticTypes := #[.long]
  resolved := Array.replicate 136 none
  statics := none }

def pool27 : Array CpInfo := pool [(1, .methodref 2 3), (0, .class_ 4), (0, .nameAndType 5 6), (0, u "java/util/Collections$UnmodifiableCollection"), (0, u "<init>"), (0, u "(Ljava/util/Collection;)V"), (0, .fieldref 8 9), (0, .class_ 10), (0, .nameAndType 11 12), (0, u "java/util/Collections$UnmodifiableList"), (0, u "list"), (0, u "Ljava/util/List;"), (1, .class_ 16), (1, u "java/util/List"), (6, .interfaceMethodref 14 24), (0, .nameAndType 25 26), (0, u "get"), (0, u "(I)Ljava/lang/Object;"), (27, u "(Ljava/util/List;)V"), (5, u "serialVersionUID"), (0, u "J"), (59, .class_ 122), (0, u "java/util/Collections")] 4

def k27c0 : Code := { maxStack := 2, maxLocals := 2, code := jdk_120_method_1_code, exceptionTable := #[], attributes := #[] }
def k27m0 : Method := { name := "<init>", desc := "(Ljava/util/List;)V", sig := { parameters := [(.object "java/util/List")], returnType := none }, accessFlags := 0, code := some k27c0 }
def k27c1 : Code := { maxStack := 2, maxLocals := 2, code := jdk_120_method_4_code, exceptionTable := #[], attributes := #[] }
def k27m1 : Method := { name := "get", desc := "(I)Ljava/lang/Object;", sig := { parameters := [.int], returnType := some (.object "java/lang/Object") }, accessFlags := 1, code := some k27c1 }
/-- java/util/Collections$UnmodifiableList -/
def k27 : Class := { plain "java/util/Collections$UnmodifiableList" (some 26) with
  accessFlags := 32
  interfaces := #[15]
  cf := some (fileOf pool27 8 #[.nestHost 121] #[{ accessFlags := 0, nameIndex := 5, descriptorIndex := 54, attributes := #[] }, { accessFlags := 1, nameIndex := 25, descriptorIndex := 26, attributes := #[] }] 32 2 #[14] #[{ accessFlags := 26, nameIndex := 60, descriptorIndex := 61, attributes := #[] }, { accessFlags := 16, nameIndex := 11, descriptorIndex := 12, attributes := #[] }])
  fields := #[{ name := "serialVersionUID", type := .long, accessFlags := 26, slot := 0, constantValue := 0 }, { name := "list", type := (.object "java/util/List"), accessFlags := 16, slot := 1, constantValue := 0 }]
  methods := #[k27m0, k27m1]
  instanceTypes := #[(.object "java/util/Collection"), (.object "java/util/List")]
  staticTypes := #[.long]
  resolved := Array.replicate 127 none
  mirror := some 5
  statics := none }

def pool28 : Array CpInfo := pool [(1, .methodref 2 3), (0, .class_ 4), (0, .nameAndType 5 6), (0, u "java/util/Collections$UnmodifiableList"), (0, u "<init>"), (0, u "(Ljava/util/List;)V"), (0, .class_ 8), (0, u "java/util/Collections$UnmodifiableRandomAccessList"), (11, .class_ 21), (0, u "java/util/RandomAccess"), (0, u "serialVersionUID"), (0, u "J"), (23, .class_ 48), (0, u "java/util/Collections")] 3

def k28c0 : Code := { maxStack := 2, maxLocals := 2, code := jdk_121_method_1_code, exceptionTable := #[], attributes := #[] }
def k28m0 : Method := { name := "<init>", desc := "(Ljava/util/List;)V", sig := { parameters := [(.object "java/util/List")], returnType := none }, accessFlags := 0, code := some k28c0 }
/-- java/util/Collections$UnmodifiableRandomAccessList -/
def k28 : Class := { plain "java/util/Collections$UnmodifiableRandomAccessList" (some 27) with
  accessFlags := 32
  interfaces := #[17]
  cf := some (fileOf pool28 7 #[.nestHost 47] #[{ accessFlags := 0, nameIndex := 5, descriptorIndex := 6, attributes := #[] }] 32 2 #[20] #[{ accessFlags := 26, nameIndex := 22, descriptorIndex := 23, attributes := #[] }])
  fields := #[{ name := "serialVersionUID", type := .long, accessFlags := 26, slot := 0, constantValue := 0 }]
  methods := #[k28m0]
  instanceTypes := #[(.object "java/util/Collection"), (.object "java/util/List")]
  staticTypes := #[.long]
  resolved := Array.replicate 52 none
  mirror := some 6
  statics := none }

def pool29 : Array CpInfo := pool [(2, .class_ 4), (1, u "java/lang/Object"), (0, u "<init>"), (0, u "()V"), (35, .class_ 44), (1, u "java/util/Objects"), (60, .methodref 106 107), (0, .class_ 108), (0, .nameAndType 109 110), (0, u "jdk/internal/util/Preconditions"), (0, u "checkIndex"), (0, u "(IILjava/util/function/BiFunction;)I"), (60, u "(II)I")] 12

def k29m0 : Method := { name := "<init>", desc := "()V", sig := { parameters := [], returnType := none }, accessFlags := 2, code := none }
def k29c1 : Code := { maxStack := 3, maxLocals := 2, code := jdk_31_method_17_code, exceptionTable := #[], attributes := #[] }
def k29m1 : Method := { name := "checkIndex", desc := "(II)I", sig := { parameters := [.int, .int], returnType := some .int }, accessFlags := 9, code := some k29c1 }
/-- java/util/Objects -/
def k29 : Class := { plain "java/util/Objects" (some 0) with
  accessFlags := 49
  interfaces := #[]
  cf := some (fileOf pool29 42 #[] #[{ accessFlags := 2, nameIndex := 5, descriptorIndex := 6, attributes := #[] }, { accessFlags := 9, nameIndex := 109, descriptorIndex := 171, attributes := #[] }] 49 2 #[] #[])
  fields := #[]
  methods := #[k29m0, k29m1]
  instanceTypes := #[]
  staticTypes := #[]
  resolved := Array.replicate 184 none
  statics := none }

def pool30 : Array CpInfo := pool [(2, .class_ 4), (1, u "java/lang/Object"), (0, u "<init>"), (0, u "()V"), (17, .class_ 26), (1, u "jdk/internal/util/Preconditions"), (6, u "checkIndex"), (21, .class_ 56), (0, u "jdk/internal/util/Preconditions$4"), (57, .class_ 115), (0, u "jdk/internal/util/Preconditions$1"), (7, u "SIOOBE_FORMATTER"), (0, u "Ljava/util/function/BiFunction;"), (0, .class_ 126), (0, u "jdk/internal/util/Preconditions$2"), (3, u "AIOOBE_FORMATTER"), (0, .class_ 132), (0, u "jdk/internal/util/Preconditions$3"), (3, u "IOOBE_FORMATTER"), (41, u "(IILjava/util/function/BiFunction;)I")] 15

def k30m0 : Method := { name := "<init>", desc := "()V", sig := { parameters := [], returnType := none }, accessFlags := 1, code := none }
def k30c1 : Code := { maxStack := 3, maxLocals := 3, code := jdk_41_method_11_code, exceptionTable := #[], attributes := #[] }
def k30m1 : Method := { name := "checkIndex", desc := "(IILjava/util/function/BiFunction;)I", sig := { parameters := [.int, .int, (.object "java/util/function/BiFunction")], returnType := some .int }, accessFlags := 9, code := some k30c1 }
/-- jdk/internal/util/Preconditions -/
def k30 : Class := { plain "jdk/internal/util/Preconditions" (some 0) with
  accessFlags := 33
  interfaces := #[]
  cf := some (fileOf pool30 24 #[.nestMembers #[55, 131, 125, 114]] #[{ accessFlags := 1, nameIndex := 5, descriptorIndex := 6, attributes := #[] }, { accessFlags := 9, nameIndex := 33, descriptorIndex := 178, attributes := #[] }] 33 2 #[] #[{ accessFlags := 25, nameIndex := 123, descriptorIndex := 124, attributes := #[] }, { accessFlags := 25, nameIndex := 130, descriptorIndex := 124, attributes := #[] }, { accessFlags := 25, nameIndex := 136, descriptorIndex := 124, attributes := #[] }])
  fields := #[{ name := "SIOOBE_FORMATTER", type := (.object "java/util/function/BiFunction"), accessFlags := 25, slot := 0, constantValue := 0 }, { name := "AIOOBE_FORMATTER", type := (.object "java/util/function/BiFunction"), accessFlags := 25, slot := 1, constantValue := 0 }, { name := "IOOBE_FORMATTER", type := (.object "java/util/function/BiFunction"), accessFlags := 25, slot := 2, constantValue := 0 }]
  methods := #[k30m0, k30m1]
  instanceTypes := #[]
  staticTypes := #[(.object "java/util/function/BiFunction"), (.object "java/util/function/BiFunction"), (.object "java/util/function/BiFunction")]
  resolved := Array.replicate 194 none
  statics := some 2 }

def pool31 : Array CpInfo := pool [(1, .class_ 2), (0, u "java/lang/Long"), (55, .nameAndType 59 60), (0, u "<init>"), (0, u "()V"), (24, u "valueOf"), (143, u "(J)Ljava/lang/Long;"), (0, .long 18446744073709551488), (1, .long 127), (1, .fieldref 235 236), (0, .class_ 237), (0, .nameAndType 238 239), (0, u "java/lang/Long$LongCache"), (0, u "cache"), (0, u "[Ljava/lang/Long;"), (0, .methodref 1 241), (0, .nameAndType 59 242), (0, u "(J)V"), (27, .methodref 271 58), (0, .class_ 272), (0, u "java/lang/Number"), (0, .fieldref 1 274), (0, .nameAndType 275 276), (0, u "value"), (0, u "J"), (5, u "longValue"), (0, u "()J"), (77, u "TYPE"), (0, u "Ljava/lang/Class;"), (0, .class_ 364), (0, u "java/lang/Comparable"), (0, .class_ 366), (0, u "java/lang/constant/Constable"), (0, .class_ 368), (0, u "java/lang/constant/ConstantDesc"), (0, u "MIN_VALUE"), (1, u "MAX_VALUE"), (4, u "SIZE"), (0, u "I"), (1, u "BYTES"), (1, u "serialVersionUID")] 142

def k31c0 : Code := { maxStack := 4, maxLocals := 3, code := jdk_35_method_24_code, exceptionTable := #[], attributes := #[] }
def k31m0 : Method := { name := "valueOf", desc := "(J)Ljava/lang/Long;", sig := { parameters := [.long], returnType := some (.object "java/lang/Long") }, accessFlags := 9, code := some k31c0 }
def k31c1 : Code := { maxStack := 3, maxLocals := 3, code := jdk_35_method_26_code, exceptionTable := #[], attributes := #[] }
def k31m1 : Method := { name := "<init>", desc := "(J)V", sig := { parameters := [.long], returnType := none }, accessFlags := 1, code := some k31c1 }
def k31c2 : Code := { maxStack := 2, maxLocals := 1, code := jdk_35_method_31_code, exceptionTable := #[], attributes := #[] }
def k31m2 : Method := { name := "longValue", desc := "()J", sig := { parameters := [], returnType := some .long }, accessFlags := 1, code := some k31c2 }
/-- java/lang/Long -/
def k31 : Class := { plain "java/lang/Long" (some 22) with
  accessFlags := 49
  interfaces := #[3, 5, 6]
  cf := some (fileOf pool31 1 #[.nestMembers #[235]] #[{ accessFlags := 9, nameIndex := 85, descriptorIndex := 229, attributes := #[] }, { accessFlags := 1, nameIndex := 59, descriptorIndex := 242, attributes := #[] }, { accessFlags := 1, nameIndex := 282, descriptorIndex := 283, attributes := #[] }] 49 271 #[363, 365, 367] #[{ accessFlags := 25, nameIndex := 369, descriptorIndex := 276, attributes := #[] }, { accessFlags := 25, nameIndex := 371, descriptorIndex := 276, attributes := #[] }, { accessFlags := 25, nameIndex := 361, descriptorIndex := 362, attributes := #[] }, { accessFlags := 18, nameIndex := 275, descriptorIndex := 276, attributes := #[] }, { accessFlags := 25, nameIndex := 376, descriptorIndex := 377, attributes := #[] }, { accessFlags := 25, nameIndex := 379, descriptorIndex := 377, attributes := #[] }, { accessFlags := 26, nameIndex := 381, descriptorIndex := 276, attributes := #[] }])
  fields := #[{ name := "MIN_VALUE", type := .long, accessFlags := 25, slot := 0, constantValue := 0 }, { name := "MAX_VALUE", type := .long, accessFlags := 25, slot := 1, constantValue := 0 }, { name := "TYPE", type := (.object "java/lang/Class"), accessFlags := 25, slot := 2, constantValue := 0 }, { name := "value", type := .long, accessFlags := 18, slot := 0, constantValue := 0 }, { name := "SIZE", type := .int, accessFlags := 25, slot := 3, constantValue := 0 }, { name := "BYTES", type := .int, accessFlags := 25, slot := 4, constantValue := 0 }, { name := "serialVersionUID", type := .long, accessFlags := 26, slot := 5, constantValue := 0 }]
  methods := #[k31m0, k31m1, k31m2]
  instanceTypes := #[.long]
  staticTypes := #[.long, .long, (.object "java/lang/Class"), .int, .int, .long]
  resolved := Array.replicate 524 none
  statics := none }

def pool32 : Array CpInfo := pool [(2, .class_ 4), (1, u "java/lang/Object"), (0, u "<init>"), (0, u "()V"), (0, .class_ 8), (0, u "java/lang/Long"), (7, .class_ 18), (1, u "java/lang/Long$LongCache"), (0, u "$assertionsDisabled"), (0, u "Z"), (8, u "archivedCache"), (0, u "[Ljava/lang/Long;"), (7, u "cache")] 24

def k32m0 : Method := { name := "<init>", desc := "()V", sig := { parameters := [], returnType := none }, accessFlags := 2, code := none }
/-- java/lang/Long$LongCache -/
def k32 : Class := { plain "java/lang/Long$LongCache" (some 0) with
  accessFlags := 48
  interfaces := #[]
  cf := some (fileOf pool32 16 #[.nestHost 7] #[{ accessFlags := 2, nameIndex := 5, descriptorIndex := 6, attributes := #[] }] 48 2 #[] #[{ accessFlags := 24, nameIndex := 38, descriptorIndex := 30, attributes := #[] }, { accessFlags := 8, nameIndex := 29, descriptorIndex := 30, attributes := #[] }, { accessFlags := 4120, nameIndex := 19, descriptorIndex := 20, attributes := #[] }])
  fields := #[{ name := "cache", type := (.array (.object "java/lang/Long")), accessFlags := 24, slot := 0, constantValue := 0 }, { name := "archivedCache", type := (.array (.object "java/lang/Long")), accessFlags := 8, slot := 1, constantValue := 0 }, { name := "$assertionsDisabled", type := .boolean, accessFlags := 4120, slot := 2, constantValue := 0 }]
  methods := #[k32m0]
  instanceTypes := #[]
  staticTypes := #[(.array (.object "java/lang/Long")), (.array (.object "java/lang/Long")), .boolean]
  resolved := Array.replicate 63 none
  statics := some 3 }

def pool33 : Array CpInfo := pool [(9, u "<init>"), (6, .class_ 18), (1, u "java/lang/Object"), (0, u "()V"), (1, .class_ 23), (1, u "jdk/internal/util/ArraysSupport"), (0, u "LOG2_ARRAY_LONG_INDEX_SCALE"), (0, u "I"), (2, u "U"), (0, u "Ljdk/internal/misc/Unsafe;"), (8, u "BIG_ENDIAN"), (0, u "Z"), (8, u "LOG2_BYTE_BIT_SIZE"), (4, u "LOG2_ARRAY_INT_INDEX_SCALE"), (54, u "JLA"), (0, u "Ljdk/internal/access/JavaLangAccess;"), (11, u "LOG2_ARRAY_BOOLEAN_INDEX_SCALE"), (9, u "LOG2_ARRAY_BYTE_INDEX_SCALE"), (5, u "LOG2_ARRAY_CHAR_INDEX_SCALE"), (5, u "LOG2_ARRAY_SHORT_INDEX_SCALE"), (18, u "LOG2_ARRAY_FLOAT_INDEX_SCALE"), (24, u "LOG2_ARRAY_DOUBLE_INDEX_SCALE"), (89, u "T_BOOLEAN"), (2, u "T_CHAR"), (1, u "T_FLOAT"), (1, u "T_DOUBLE"), (1, u "T_BYTE"), (1, u "T_SHORT"), (1, u "T_INT"), (1, u "T_LONG"), (1, u "SOFT_MAX_ARRAY_LENGTH")] 83

def k33m0 : Method := { name := "<init>", desc := "()V", sig := { parameters := [], returnType := none }, accessFlags := 2, code := none }
/-- jdk/internal/util/ArraysSupport -/
def k33 : Class := { plain "jdk/internal/util/ArraysSupport" (some 0) with
  accessFlags := 33
  interfaces := #[]
  cf := some (fileOf pool33 21 #[] #[{ accessFlags := 2, nameIndex := 9, descriptorIndex := 19, attributes := #[] }] 33 16 #[] #[{ accessFlags := 24, nameIndex := 28, descriptorIndex := 29, attributes := #[] }, { accessFlags := 26, nameIndex := 38, descriptorIndex := 39, attributes := #[] }, { accessFlags := 25, nameIndex := 121, descriptorIndex := 25, attributes := #[] }, { accessFlags := 25, nameIndex := 131, descriptorIndex := 25, attributes := #[] }, { accessFlags := 25, nameIndex := 137, descriptorIndex := 25, attributes := #[] }, { accessFlags := 25, nameIndex := 143, descriptorIndex := 25, attributes := #[] }, { accessFlags := 25, nameIndex := 53, descriptorIndex := 25, attributes := #[] }, { accessFlags := 25, nameIndex := 24, descriptorIndex := 25, attributes := #[] }, { accessFlags := 25, nameIndex := 162, descriptorIndex := 25, attributes := #[] }, { accessFlags := 25, nameIndex := 187, descriptorIndex := 25, attributes := #[] }, { accessFlags := 26, nameIndex := 48, descriptorIndex := 25, attributes := #[] }, { accessFlags := 25, nameIndex := 277, descriptorIndex := 25, attributes := #[] }, { accessFlags := 25, nameIndex := 280, descriptorIndex := 25, attributes := #[] }, { accessFlags := 25, nameIndex := 282, descriptorIndex := 25, attributes := #[] }, { accessFlags := 25, nameIndex := 284, descriptorIndex := 25, attributes := #[] }, { accessFlags := 25, nameIndex := 286, descriptorIndex := 25, attributes := #[] }, { accessFlags := 25, nameIndex := 288, descriptorIndex := 25, attributes := #[] }, { accessFlags := 25, nameIndex := 290, descriptorIndex := 25, attributes := #[] }, { accessFlags := 25, nameIndex := 292, descriptorIndex := 25, attributes := #[] }, { accessFlags := 26, nameIndex := 108, descriptorIndex := 109, attributes := #[] }, { accessFlags := 25, nameIndex := 294, descriptorIndex := 25, attributes := #[] }])
  fields := #[{ name := "U", type := (.object "jdk/internal/misc/Unsafe"), accessFlags := 24, slot := 0, constantValue := 0 }, { name := "BIG_ENDIAN", type := .boolean, accessFlags := 26, slot := 1, constantValue := 0 }, { name := "LOG2_ARRAY_BOOLEAN_INDEX_SCALE", type := .int, accessFlags := 25, slot := 2, constantValue := 0 }, { name := "LOG2_ARRAY_BYTE_INDEX_SCALE", type := .int, accessFlags := 25, slot := 3, constantValue := 0 }, { name := "LOG2_ARRAY_CHAR_INDEX_SCALE", type := .int, accessFlags := 25, slot := 4, constantValue := 0 }, { name := "LOG2_ARRAY_SHORT_INDEX_SCALE", type := .int, accessFlags := 25, slot := 5, constantValue := 0 }, { name := "LOG2_ARRAY_INT_INDEX_SCALE", type := .int, accessFlags := 25, slot := 6, constantValue := 0 }, { name := "LOG2_ARRAY_LONG_INDEX_SCALE", type := .int, accessFlags := 25, slot := 7, constantValue := 0 }, { name := "LOG2_ARRAY_FLOAT_INDEX_SCALE", type := .int, accessFlags := 25, slot := 8, constantValue := 0 }, { name := "LOG2_ARRAY_DOUBLE_INDEX_SCALE", type := .int, accessFlags := 25, slot := 9, constantValue := 0 }, { name := "LOG2_BYTE_BIT_SIZE", type := .int, accessFlags := 26, slot := 10, constantValue := 0 }, { name := "T_BOOLEAN", type := .int, accessFlags := 25, slot := 11, constantValue := 0 }, { name := "T_CHAR", type := .int, accessFlags := 25, slot := 12, constantValue := 0 }, { name := "T_FLOAT", type := .int, accessFlags := 25, slot := 13, constantValue := 0 }, { name := "T_DOUBLE", type := .int, accessFlags := 25, slot := 14, constantValue := 0 }, { name := "T_BYTE", type := .int, accessFlags := 25, slot := 15, constantValue := 0 }, { name := "T_SHORT", type := .int, accessFlags := 25, slot := 16, constantValue := 0 }, { name := "T_INT", type := .int, accessFlags := 25, slot := 17, constantValue := 0 }, { name := "T_LONG", type := .int, accessFlags := 25, slot := 18, constantValue := 0 }, { name := "JLA", type := (.object "jdk/internal/access/JavaLangAccess"), accessFlags := 26, slot := 19, constantValue := 0 }, { name := "SOFT_MAX_ARRAY_LENGTH", type := .int, accessFlags := 25, slot := 20, constantValue := 0 }]
  methods := #[k33m0]
  instanceTypes := #[]
  staticTypes := #[(.object "jdk/internal/misc/Unsafe"), .boolean, .int, .int, .int, .int, .int, .int, .int, .int, .int, .int, .int, .int, .int, .int, .int, .int, .int, (.object "jdk/internal/access/JavaLangAccess"), .int]
  resolved := Array.replicate 378 none
  statics := none }

def pool34 : Array CpInfo := pool [(1, u "java/lang/Class"), (0, .class_ 1), (0, u "java/lang/Object"), (0, .class_ 3)] 3

/-- java/lang/Class -/
def k34 : Class := { plain "java/lang/Class" (some 0) with
  accessFlags := 49
  interfaces := #[]
  cf := some (fileOf pool34 2 #[] #[] 49 4 #[] #[])
  fields := #[]
  methods := #[]
  instanceTypes := #[]
  staticTypes := #[]
  resolved := Array.replicate 8 none
  statics := none }

/-- the primitive byte -/
def k35 : Class := { plain "byte" none with kind := .primitive 'B', accessFlags := 0x411 }
/-- [B -/
def k36 : Class := { plain "[B" (some 0) with kind := .array 35 .byte, interfaces := #[18, 2], accessFlags := 1041 }

/-- the primitive char -/
def k37 : Class := { plain "char" none with kind := .primitive 'C', accessFlags := 0x411 }
/-- [C -/
def k38 : Class := { plain "[C" (some 0) with kind := .array 37 .char, interfaces := #[18, 2], accessFlags := 1041 }

/-- the primitive int -/
def k39 : Class := { plain "int" none with kind := .primitive 'I', accessFlags := 0x411 }
/-- [I -/
def k40 : Class := { plain "[I" (some 0) with kind := .array 39 .int, interfaces := #[18, 2], accessFlags := 1041 }

/-- [Ljava/lang/Long; -/
def k41 : Class := { plain "[Ljava/lang/Long;" (some 0) with kind := .array 31 (.object "java/lang/Long"), interfaces := #[18, 2], accessFlags := 1041 }

/-- [Ljava/lang/Object; -/
def k42 : Class := { plain "[Ljava/lang/Object;" (some 0) with kind := .array 0 (.object "java/lang/Object"), interfaces := #[18, 2], accessFlags := 1041 }

def heap : Heap := #[{ cls := 7, slots := #[.long 0, .int 1, .null, .int 0, .null, .int 0, .int 0], vm := .statics 7 },
  { cls := 19, slots := #[.long 0, .int 0, .ref 264, .ref 265], vm := .statics 19 },
  { cls := 30, slots := #[.null, .null, .null], vm := .statics 30 },
  { cls := 32, slots := #[.ref 7, .null, .int 0], vm := .statics 32 },
  { cls := 34, slots := #[], vm := .mirror 19 },
  { cls := 34, slots := #[], vm := .mirror 27 },
  { cls := 34, slots := #[], vm := .mirror 28 },
  { cls := 41, slots := #[.ref 8, .ref 9, .ref 10, .ref 11, .ref 12, .ref 13, .ref 14, .ref 15, .ref 16, .ref 17, .ref 18, .ref 19, .ref 20, .ref 21, .ref 22, .ref 23, .ref 24, .ref 25, .ref 26, .ref 27, .ref 28, .ref 29, .ref 30, .ref 31, .ref 32, .ref 33, .ref 34, .ref 35, .ref 36, .ref 37, .ref 38, .ref 39, .ref 40, .ref 41, .ref 42, .ref 43, .ref 44, .ref 45, .ref 46, .ref 47, .ref 48, .ref 49, .ref 50, .ref 51, .ref 52, .ref 53, .ref 54, .ref 55, .ref 56, .ref 57, .ref 58, .ref 59, .ref 60, .ref 61, .ref 62, .ref 63, .ref 64, .ref 65, .ref 66, .ref 67, .ref 68, .ref 69, .ref 70, .ref 71, .ref 72, .ref 73, .ref 74, .ref 75, .ref 76, .ref 77, .ref 78, .ref 79, .ref 80, .ref 81, .ref 82, .ref 83, .ref 84, .ref 85, .ref 86, .ref 87, .ref 88, .ref 89, .ref 90, .ref 91, .ref 92, .ref 93, .ref 94, .ref 95, .ref 96, .ref 97, .ref 98, .ref 99, .ref 100, .ref 101, .ref 102, .ref 103, .ref 104, .ref 105, .ref 106, .ref 107, .ref 108, .ref 109, .ref 110, .ref 111, .ref 112, .ref 113, .ref 114, .ref 115, .ref 116, .ref 117, .ref 118, .ref 119, .ref 120, .ref 121, .ref 122, .ref 123, .ref 124, .ref 125, .ref 126, .ref 127, .ref 128, .ref 129, .ref 130, .ref 131, .ref 132, .ref 133, .ref 134, .ref 135, .ref 136, .ref 137, .ref 138, .ref 139, .ref 140, .ref 141, .ref 142, .ref 143, .ref 144, .ref 145, .ref 146, .ref 147, .ref 148, .ref 149, .ref 150, .ref 151, .ref 152, .ref 153, .ref 154, .ref 155, .ref 156, .ref 157, .ref 158, .ref 159, .ref 160, .ref 161, .ref 162, .ref 163, .ref 164, .ref 165, .ref 166, .ref 167, .ref 168, .ref 169, .ref 170, .ref 171, .ref 172, .ref 173, .ref 174, .ref 175, .ref 176, .ref 177, .ref 178, .ref 179, .ref 180, .ref 181, .ref 182, .ref 183, .ref 184, .ref 185, .ref 186, .ref 187, .ref 188, .ref 189, .ref 190, .ref 191, .ref 192, .ref 193, .ref 194, .ref 195, .ref 196, .ref 197, .ref 198, .ref 199, .ref 200, .ref 201, .ref 202, .ref 203, .ref 204, .ref 205, .ref 206, .ref 207, .ref 208, .ref 209, .ref 210, .ref 211, .ref 212, .ref 213, .ref 214, .ref 215, .ref 216, .ref 217, .ref 218, .ref 219, .ref 220, .ref 221, .ref 222, .ref 223, .ref 224, .ref 225, .ref 226, .ref 227, .ref 228, .ref 229, .ref 230, .ref 231, .ref 232, .ref 233, .ref 234, .ref 235, .ref 236, .ref 237, .ref 238, .ref 239, .ref 240, .ref 241, .ref 242, .ref 243, .ref 244, .ref 245, .ref 246, .ref 247, .ref 248, .ref 249, .ref 250, .ref 251, .ref 252, .ref 253, .ref 254, .ref 255, .ref 256, .ref 257, .ref 258, .ref 259, .ref 260, .ref 261, .ref 262, .ref 263], vm := .none },
  { cls := 31, slots := #[.long (-128)], vm := .none },
  { cls := 31, slots := #[.long (-127)], vm := .none },
  { cls := 31, slots := #[.long (-126)], vm := .none },
  { cls := 31, slots := #[.long (-125)], vm := .none },
  { cls := 31, slots := #[.long (-124)], vm := .none },
  { cls := 31, slots := #[.long (-123)], vm := .none },
  { cls := 31, slots := #[.long (-122)], vm := .none },
  { cls := 31, slots := #[.long (-121)], vm := .none },
  { cls := 31, slots := #[.long (-120)], vm := .none },
  { cls := 31, slots := #[.long (-119)], vm := .none },
  { cls := 31, slots := #[.long (-118)], vm := .none },
  { cls := 31, slots := #[.long (-117)], vm := .none },
  { cls := 31, slots := #[.long (-116)], vm := .none },
  { cls := 31, slots := #[.long (-115)], vm := .none },
  { cls := 31, slots := #[.long (-114)], vm := .none },
  { cls := 31, slots := #[.long (-113)], vm := .none },
  { cls := 31, slots := #[.long (-112)], vm := .none },
  { cls := 31, slots := #[.long (-111)], vm := .none },
  { cls := 31, slots := #[.long (-110)], vm := .none },
  { cls := 31, slots := #[.long (-109)], vm := .none },
  { cls := 31, slots := #[.long (-108)], vm := .none },
  { cls := 31, slots := #[.long (-107)], vm := .none },
  { cls := 31, slots := #[.long (-106)], vm := .none },
  { cls := 31, slots := #[.long (-105)], vm := .none },
  { cls := 31, slots := #[.long (-104)], vm := .none },
  { cls := 31, slots := #[.long (-103)], vm := .none },
  { cls := 31, slots := #[.long (-102)], vm := .none },
  { cls := 31, slots := #[.long (-101)], vm := .none },
  { cls := 31, slots := #[.long (-100)], vm := .none },
  { cls := 31, slots := #[.long (-99)], vm := .none },
  { cls := 31, slots := #[.long (-98)], vm := .none },
  { cls := 31, slots := #[.long (-97)], vm := .none },
  { cls := 31, slots := #[.long (-96)], vm := .none },
  { cls := 31, slots := #[.long (-95)], vm := .none },
  { cls := 31, slots := #[.long (-94)], vm := .none },
  { cls := 31, slots := #[.long (-93)], vm := .none },
  { cls := 31, slots := #[.long (-92)], vm := .none },
  { cls := 31, slots := #[.long (-91)], vm := .none },
  { cls := 31, slots := #[.long (-90)], vm := .none },
  { cls := 31, slots := #[.long (-89)], vm := .none },
  { cls := 31, slots := #[.long (-88)], vm := .none },
  { cls := 31, slots := #[.long (-87)], vm := .none },
  { cls := 31, slots := #[.long (-86)], vm := .none },
  { cls := 31, slots := #[.long (-85)], vm := .none },
  { cls := 31, slots := #[.long (-84)], vm := .none },
  { cls := 31, slots := #[.long (-83)], vm := .none },
  { cls := 31, slots := #[.long (-82)], vm := .none },
  { cls := 31, slots := #[.long (-81)], vm := .none },
  { cls := 31, slots := #[.long (-80)], vm := .none },
  { cls := 31, slots := #[.long (-79)], vm := .none },
  { cls := 31, slots := #[.long (-78)], vm := .none },
  { cls := 31, slots := #[.long (-77)], vm := .none },
  { cls := 31, slots := #[.long (-76)], vm := .none },
  { cls := 31, slots := #[.long (-75)], vm := .none },
  { cls := 31, slots := #[.long (-74)], vm := .none },
  { cls := 31, slots := #[.long (-73)], vm := .none },
  { cls := 31, slots := #[.long (-72)], vm := .none },
  { cls := 31, slots := #[.long (-71)], vm := .none },
  { cls := 31, slots := #[.long (-70)], vm := .none },
  { cls := 31, slots := #[.long (-69)], vm := .none },
  { cls := 31, slots := #[.long (-68)], vm := .none },
  { cls := 31, slots := #[.long (-67)], vm := .none },
  { cls := 31, slots := #[.long (-66)], vm := .none },
  { cls := 31, slots := #[.long (-65)], vm := .none },
  { cls := 31, slots := #[.long (-64)], vm := .none },
  { cls := 31, slots := #[.long (-63)], vm := .none },
  { cls := 31, slots := #[.long (-62)], vm := .none },
  { cls := 31, slots := #[.long (-61)], vm := .none },
  { cls := 31, slots := #[.long (-60)], vm := .none },
  { cls := 31, slots := #[.long (-59)], vm := .none },
  { cls := 31, slots := #[.long (-58)], vm := .none },
  { cls := 31, slots := #[.long (-57)], vm := .none },
  { cls := 31, slots := #[.long (-56)], vm := .none },
  { cls := 31, slots := #[.long (-55)], vm := .none },
  { cls := 31, slots := #[.long (-54)], vm := .none },
  { cls := 31, slots := #[.long (-53)], vm := .none },
  { cls := 31, slots := #[.long (-52)], vm := .none },
  { cls := 31, slots := #[.long (-51)], vm := .none },
  { cls := 31, slots := #[.long (-50)], vm := .none },
  { cls := 31, slots := #[.long (-49)], vm := .none },
  { cls := 31, slots := #[.long (-48)], vm := .none },
  { cls := 31, slots := #[.long (-47)], vm := .none },
  { cls := 31, slots := #[.long (-46)], vm := .none },
  { cls := 31, slots := #[.long (-45)], vm := .none },
  { cls := 31, slots := #[.long (-44)], vm := .none },
  { cls := 31, slots := #[.long (-43)], vm := .none },
  { cls := 31, slots := #[.long (-42)], vm := .none },
  { cls := 31, slots := #[.long (-41)], vm := .none },
  { cls := 31, slots := #[.long (-40)], vm := .none },
  { cls := 31, slots := #[.long (-39)], vm := .none },
  { cls := 31, slots := #[.long (-38)], vm := .none },
  { cls := 31, slots := #[.long (-37)], vm := .none },
  { cls := 31, slots := #[.long (-36)], vm := .none },
  { cls := 31, slots := #[.long (-35)], vm := .none },
  { cls := 31, slots := #[.long (-34)], vm := .none },
  { cls := 31, slots := #[.long (-33)], vm := .none },
  { cls := 31, slots := #[.long (-32)], vm := .none },
  { cls := 31, slots := #[.long (-31)], vm := .none },
  { cls := 31, slots := #[.long (-30)], vm := .none },
  { cls := 31, slots := #[.long (-29)], vm := .none },
  { cls := 31, slots := #[.long (-28)], vm := .none },
  { cls := 31, slots := #[.long (-27)], vm := .none },
  { cls := 31, slots := #[.long (-26)], vm := .none },
  { cls := 31, slots := #[.long (-25)], vm := .none },
  { cls := 31, slots := #[.long (-24)], vm := .none },
  { cls := 31, slots := #[.long (-23)], vm := .none },
  { cls := 31, slots := #[.long (-22)], vm := .none },
  { cls := 31, slots := #[.long (-21)], vm := .none },
  { cls := 31, slots := #[.long (-20)], vm := .none },
  { cls := 31, slots := #[.long (-19)], vm := .none },
  { cls := 31, slots := #[.long (-18)], vm := .none },
  { cls := 31, slots := #[.long (-17)], vm := .none },
  { cls := 31, slots := #[.long (-16)], vm := .none },
  { cls := 31, slots := #[.long (-15)], vm := .none },
  { cls := 31, slots := #[.long (-14)], vm := .none },
  { cls := 31, slots := #[.long (-13)], vm := .none },
  { cls := 31, slots := #[.long (-12)], vm := .none },
  { cls := 31, slots := #[.long (-11)], vm := .none },
  { cls := 31, slots := #[.long (-10)], vm := .none },
  { cls := 31, slots := #[.long (-9)], vm := .none },
  { cls := 31, slots := #[.long (-8)], vm := .none },
  { cls := 31, slots := #[.long (-7)], vm := .none },
  { cls := 31, slots := #[.long (-6)], vm := .none },
  { cls := 31, slots := #[.long (-5)], vm := .none },
  { cls := 31, slots := #[.long (-4)], vm := .none },
  { cls := 31, slots := #[.long (-3)], vm := .none },
  { cls := 31, slots := #[.long (-2)], vm := .none },
  { cls := 31, slots := #[.long (-1)], vm := .none },
  { cls := 31, slots := #[.long 0], vm := .none },
  { cls := 31, slots := #[.long 1], vm := .none },
  { cls := 31, slots := #[.long 2], vm := .none },
  { cls := 31, slots := #[.long 3], vm := .none },
  { cls := 31, slots := #[.long 4], vm := .none },
  { cls := 31, slots := #[.long 5], vm := .none },
  { cls := 31, slots := #[.long 6], vm := .none },
  { cls := 31, slots := #[.long 7], vm := .none },
  { cls := 31, slots := #[.long 8], vm := .none },
  { cls := 31, slots := #[.long 9], vm := .none },
  { cls := 31, slots := #[.long 10], vm := .none },
  { cls := 31, slots := #[.long 11], vm := .none },
  { cls := 31, slots := #[.long 12], vm := .none },
  { cls := 31, slots := #[.long 13], vm := .none },
  { cls := 31, slots := #[.long 14], vm := .none },
  { cls := 31, slots := #[.long 15], vm := .none },
  { cls := 31, slots := #[.long 16], vm := .none },
  { cls := 31, slots := #[.long 17], vm := .none },
  { cls := 31, slots := #[.long 18], vm := .none },
  { cls := 31, slots := #[.long 19], vm := .none },
  { cls := 31, slots := #[.long 20], vm := .none },
  { cls := 31, slots := #[.long 21], vm := .none },
  { cls := 31, slots := #[.long 22], vm := .none },
  { cls := 31, slots := #[.long 23], vm := .none },
  { cls := 31, slots := #[.long 24], vm := .none },
  { cls := 31, slots := #[.long 25], vm := .none },
  { cls := 31, slots := #[.long 26], vm := .none },
  { cls := 31, slots := #[.long 27], vm := .none },
  { cls := 31, slots := #[.long 28], vm := .none },
  { cls := 31, slots := #[.long 29], vm := .none },
  { cls := 31, slots := #[.long 30], vm := .none },
  { cls := 31, slots := #[.long 31], vm := .none },
  { cls := 31, slots := #[.long 32], vm := .none },
  { cls := 31, slots := #[.long 33], vm := .none },
  { cls := 31, slots := #[.long 34], vm := .none },
  { cls := 31, slots := #[.long 35], vm := .none },
  { cls := 31, slots := #[.long 36], vm := .none },
  { cls := 31, slots := #[.long 37], vm := .none },
  { cls := 31, slots := #[.long 38], vm := .none },
  { cls := 31, slots := #[.long 39], vm := .none },
  { cls := 31, slots := #[.long 40], vm := .none },
  { cls := 31, slots := #[.long 41], vm := .none },
  { cls := 31, slots := #[.long 42], vm := .none },
  { cls := 31, slots := #[.long 43], vm := .none },
  { cls := 31, slots := #[.long 44], vm := .none },
  { cls := 31, slots := #[.long 45], vm := .none },
  { cls := 31, slots := #[.long 46], vm := .none },
  { cls := 31, slots := #[.long 47], vm := .none },
  { cls := 31, slots := #[.long 48], vm := .none },
  { cls := 31, slots := #[.long 49], vm := .none },
  { cls := 31, slots := #[.long 50], vm := .none },
  { cls := 31, slots := #[.long 51], vm := .none },
  { cls := 31, slots := #[.long 52], vm := .none },
  { cls := 31, slots := #[.long 53], vm := .none },
  { cls := 31, slots := #[.long 54], vm := .none },
  { cls := 31, slots := #[.long 55], vm := .none },
  { cls := 31, slots := #[.long 56], vm := .none },
  { cls := 31, slots := #[.long 57], vm := .none },
  { cls := 31, slots := #[.long 58], vm := .none },
  { cls := 31, slots := #[.long 59], vm := .none },
  { cls := 31, slots := #[.long 60], vm := .none },
  { cls := 31, slots := #[.long 61], vm := .none },
  { cls := 31, slots := #[.long 62], vm := .none },
  { cls := 31, slots := #[.long 63], vm := .none },
  { cls := 31, slots := #[.long 64], vm := .none },
  { cls := 31, slots := #[.long 65], vm := .none },
  { cls := 31, slots := #[.long 66], vm := .none },
  { cls := 31, slots := #[.long 67], vm := .none },
  { cls := 31, slots := #[.long 68], vm := .none },
  { cls := 31, slots := #[.long 69], vm := .none },
  { cls := 31, slots := #[.long 70], vm := .none },
  { cls := 31, slots := #[.long 71], vm := .none },
  { cls := 31, slots := #[.long 72], vm := .none },
  { cls := 31, slots := #[.long 73], vm := .none },
  { cls := 31, slots := #[.long 74], vm := .none },
  { cls := 31, slots := #[.long 75], vm := .none },
  { cls := 31, slots := #[.long 76], vm := .none },
  { cls := 31, slots := #[.long 77], vm := .none },
  { cls := 31, slots := #[.long 78], vm := .none },
  { cls := 31, slots := #[.long 79], vm := .none },
  { cls := 31, slots := #[.long 80], vm := .none },
  { cls := 31, slots := #[.long 81], vm := .none },
  { cls := 31, slots := #[.long 82], vm := .none },
  { cls := 31, slots := #[.long 83], vm := .none },
  { cls := 31, slots := #[.long 84], vm := .none },
  { cls := 31, slots := #[.long 85], vm := .none },
  { cls := 31, slots := #[.long 86], vm := .none },
  { cls := 31, slots := #[.long 87], vm := .none },
  { cls := 31, slots := #[.long 88], vm := .none },
  { cls := 31, slots := #[.long 89], vm := .none },
  { cls := 31, slots := #[.long 90], vm := .none },
  { cls := 31, slots := #[.long 91], vm := .none },
  { cls := 31, slots := #[.long 92], vm := .none },
  { cls := 31, slots := #[.long 93], vm := .none },
  { cls := 31, slots := #[.long 94], vm := .none },
  { cls := 31, slots := #[.long 95], vm := .none },
  { cls := 31, slots := #[.long 96], vm := .none },
  { cls := 31, slots := #[.long 97], vm := .none },
  { cls := 31, slots := #[.long 98], vm := .none },
  { cls := 31, slots := #[.long 99], vm := .none },
  { cls := 31, slots := #[.long 100], vm := .none },
  { cls := 31, slots := #[.long 101], vm := .none },
  { cls := 31, slots := #[.long 102], vm := .none },
  { cls := 31, slots := #[.long 103], vm := .none },
  { cls := 31, slots := #[.long 104], vm := .none },
  { cls := 31, slots := #[.long 105], vm := .none },
  { cls := 31, slots := #[.long 106], vm := .none },
  { cls := 31, slots := #[.long 107], vm := .none },
  { cls := 31, slots := #[.long 108], vm := .none },
  { cls := 31, slots := #[.long 109], vm := .none },
  { cls := 31, slots := #[.long 110], vm := .none },
  { cls := 31, slots := #[.long 111], vm := .none },
  { cls := 31, slots := #[.long 112], vm := .none },
  { cls := 31, slots := #[.long 113], vm := .none },
  { cls := 31, slots := #[.long 114], vm := .none },
  { cls := 31, slots := #[.long 115], vm := .none },
  { cls := 31, slots := #[.long 116], vm := .none },
  { cls := 31, slots := #[.long 117], vm := .none },
  { cls := 31, slots := #[.long 118], vm := .none },
  { cls := 31, slots := #[.long 119], vm := .none },
  { cls := 31, slots := #[.long 120], vm := .none },
  { cls := 31, slots := #[.long 121], vm := .none },
  { cls := 31, slots := #[.long 122], vm := .none },
  { cls := 31, slots := #[.long 123], vm := .none },
  { cls := 31, slots := #[.long 124], vm := .none },
  { cls := 31, slots := #[.long 125], vm := .none },
  { cls := 31, slots := #[.long 126], vm := .none },
  { cls := 31, slots := #[.long 127], vm := .none },
  { cls := 42, slots := #[], vm := .none },
  { cls := 42, slots := #[], vm := .none }]
def classes : Array Class := #[k0, k1, k2, k3, k4, k5, k6, k7, k8, k9, k10, k11, k12, k13, k14, k15, k16, k17, k18, k19, k20, k21, k22, k23, k24, k25, k26, k27, k28, k29, k30, k31, k32, k33, k34, k35, k36, k37, k38, k39, k40, k41, k42]
def interned : List (Array UInt16 × Addr) := []
def slotsUsed : Nat := 529
def theMethod : MethodId := ⟨1, 1⟩
def args0 : Array Value := #[.int 5, .int 5, .int 5, .int 5, .int 5]
def aboutOver (below : List Frame) : State where
  vm := { classes := classes, interned := interned.toArray }
  heap := heap
  slotsUsed := slotsUsed
  threads := #[{ frames := .invoking theMethod args0 :: below }]
def below0 : List Frame := [.native { method := ⟨0, 0⟩, args := #[] }]
def about1 : State := aboutOver below0
def p0 : Program := .bare "" "" ""
def e0 : Env := launch0.env 0 0 0
theorem w_frames : about1.frames = Frame.invoking theMethod args0 :: below0 := rfl
set_option maxRecDepth 65536 in
theorem w_args : argsFit about1.vm theMethod args0 = true := by decide +kernel
set_option maxRecDepth 65536 in
theorem w_heap : heapFits about1 = true := by decide +kernel
set_option maxRecDepth 65536 in
theorem w_runnable : about1.curStatus? = some .runnable := by decide +kernel
set_option maxRecDepth 65536 in
theorem w_alone : about1.alone = true := by decide +kernel
set_option maxRecDepth 65536 in
theorem w_named : about1.methodNamed? x = some theMethod := by decide +kernel
set_option maxRecDepth 65536 in
theorem w_hears : about1.hears theMethod below0 = true := by decide +kernel
set_option maxRecDepth 65536 in
theorem w_ripe : about1.ripe theMethod args0 below0 = true := by decide +kernel
theorem w_running : about1.status = .running := rfl
set_option maxRecDepth 65536 in
theorem w_room : about1.hasRoom e0.platform room_1 = true :=
  launch0.hasRoom_least _ room_1 (by decide +kernel) (by decide +kernel) (by decide +kernel) (by decide +kernel) (by decide +kernel) (by decide +kernel)
theorem allAtoms_all (ts : List Jvm.Cond) (a : Array Jvm.Value) (st : Jvm.State) : (allAtoms ts).before a st = ts.all (fun c => c.before a st) := by
  induction ts with
  | nil => rfl
  | cons c t ih =>
    show (Jvm.Cond.and c (allAtoms t)).before a st = _
    rw [Jvm.Cond.before_and, ih, List.all_cons]
def words1 : List Jvm.Cond := Jvm.Cond.code x code maxLocals ret :: tables_1
/-- a 'code' word, met by the world's own term for the bytes: nothing is compared byte by byte -/
theorem code_word {y : MethodName} {bytes : ByteArray} {mx : Nat} {rt : Option FieldType} {a : Array Value} {s : State} {m : MethodId} {meth : Method} {c : Code} (h1 : s.methodNamed? y = some m) (h2 : s.vm.method? m = some meth) (h3 : meth.code = some c) (h4 : c.code = bytes)
    (h5 : (c.maxLocals == mx && c.exceptionTable.isEmpty && decide (c.maxStack ≤ mostOperands) && decide (meth.sig.returnType = rt) && !meth.locks && decide (parseMethodDescriptor y.desc = some meth.sig)) = true) : (Jvm.Cond.code y bytes mx rt).before a s = true := by
  simp only [Bool.and_eq_true, beq_iff_eq, Bool.not_eq_true', decide_eq_true_eq] at h5
  obtain ⟨⟨⟨⟨⟨g1, g2⟩, g3⟩, g4⟩, g5⟩, g6⟩ := h5
  simp [Cond.before, Cond.holds, Cond.value, h1, h2, h3, h4, g1, g2, g3, g4, g5, g6]
def isCode : Jvm.Cond → Bool
  | .code _ _ _ _ => true
  | _ => false
theorem all_split {L : List Jvm.Cond} {P : Jvm.Cond → Bool} (h1 : L.all (fun c => isCode c || P c) = true) (h2 : ∀ c ∈ L.filter isCode, P c = true) : L.all P = true := by
  refine List.all_eq_true.mpr fun c hc => ?_
  have h := List.all_eq_true.mp h1 c hc
  rcases Bool.eq_false_or_eq_true (isCode c) with hi | hi
  · exact h2 c (List.mem_filter.mpr ⟨hc, hi⟩)
  · simpa [hi] using h
set_option maxRecDepth 65536 in
theorem w_c0 : (Jvm.Cond.code x code maxLocals ret).before args0 about1 = true := code_word (m := ⟨1, 1⟩) (meth := k1m1) (c := k1c1) (by decide +kernel) rfl rfl rfl (by decide +kernel)
set_option maxRecDepth 65536 in
theorem w_c1 : (Jvm.Cond.code ({ cls := "java/lang/String", name := "<init>", desc := "([C)V" } : Jvm.MethodName) jdk_42_method_3_code (2 : Nat) (Option.none : Option Jvm.ClassFile.FieldType)).before args0 about1 = true := code_word (m := ⟨7, 1⟩) (meth := k7m1) (c := k7c1) (by decide +kernel) rfl rfl rfl (by decide +kernel)
set_option maxRecDepth 65536 in
theorem w_c2 : (Jvm.Cond.code ({ cls := "java/lang/String", name := "<init>", desc := "([CIILjava/lang/Void;)V" } : Jvm.MethodName) jdk_42_method_149_code (6 : Nat) (Option.none : Option Jvm.ClassFile.FieldType)).before args0 about1 = true := code_word (m := ⟨7, 4⟩) (meth := k7m4) (c := k7c4) (by decide +kernel) rfl rfl rfl (by decide +kernel)
set_option maxRecDepth 65536 in
theorem w_c3 : (Jvm.Cond.code ({ cls := "java/lang/Object", name := "<init>", desc := "()V" } : Jvm.MethodName) object_method_1_code (1 : Nat) (Option.none : Option Jvm.ClassFile.FieldType)).before args0 about1 = true := code_word (m := ⟨0, 0⟩) (meth := k0m0) (c := k0c0) (by decide +kernel) rfl rfl rfl (by decide +kernel)
set_option maxRecDepth 65536 in
theorem w_c4 : (Jvm.Cond.code ({ cls := "java/lang/StringUTF16", name := "compress", desc := "([CII)[B" } : Jvm.MethodName) jdk_52_method_16_code (6 : Nat) (Option.some (Jvm.ClassFile.FieldType.array Jvm.ClassFile.FieldType.byte))).before args0 about1 = true := code_word (m := ⟨8, 2⟩) (meth := k8m2) (c := k8c2) (by decide +kernel) rfl rfl rfl (by decide +kernel)
set_option maxRecDepth 65536 in
theorem w_c5 : (Jvm.Cond.code ({ cls := "java/lang/StringUTF16", name := "compress", desc := "([CI[BII)I" } : Jvm.MethodName) jdk_52_method_21_code (7 : Nat) (Option.some Jvm.ClassFile.FieldType.int)).before args0 about1 = true := code_word (m := ⟨8, 3⟩) (meth := k8m3) (c := k8c3) (by decide +kernel) rfl rfl rfl (by decide +kernel)
set_option maxRecDepth 65536 in
theorem w_c6 : (Jvm.Cond.code ({ cls := "java/lang/StringUTF16", name := "coderFromArrayLen", desc := "([BI)B" } : Jvm.MethodName) jdk_52_method_15_code (2 : Nat) (Option.some Jvm.ClassFile.FieldType.byte)).before args0 about1 = true := code_word (m := ⟨8, 1⟩) (meth := k8m1) (c := k8c1) (by decide +kernel) rfl rfl rfl (by decide +kernel)
set_option maxRecDepth 65536 in
theorem w_c7 : (Jvm.Cond.code ({ cls := "java/lang/String", name := "valueOf", desc := "(C)Ljava/lang/String;" } : Jvm.MethodName) jdk_42_method_139_code (1 : Nat) (Option.some (Jvm.ClassFile.FieldType.object "java/lang/String"))).before args0 about1 = true := code_word (m := ⟨7, 3⟩) (meth := k7m3) (c := k7c3) (by decide +kernel) rfl rfl rfl (by decide +kernel)
set_option maxRecDepth 65536 in
theorem w_c8 : (Jvm.Cond.code ({ cls := "java/lang/StringLatin1", name := "canEncode", desc := "(C)Z" } : Jvm.MethodName) jdk_43_method_3_code (1 : Nat) (Option.some Jvm.ClassFile.FieldType.boolean)).before args0 about1 = true := code_word (m := ⟨9, 1⟩) (meth := k9m1) (c := k9c1) (by decide +kernel) rfl rfl rfl (by decide +kernel)
set_option maxRecDepth 65536 in
theorem w_c9 : (Jvm.Cond.code ({ cls := "java/lang/StringLatin1", name := "toBytes", desc := "(C)[B" } : Jvm.MethodName) jdk_43_method_46_code (1 : Nat) (Option.some (Jvm.ClassFile.FieldType.array Jvm.ClassFile.FieldType.byte))).before args0 about1 = true := code_word (m := ⟨9, 2⟩) (meth := k9m2) (c := k9c2) (by decide +kernel) rfl rfl rfl (by decide +kernel)
set_option maxRecDepth 65536 in
theorem w_c10 : (Jvm.Cond.code ({ cls := "java/lang/String", name := "<init>", desc := "([BB)V" } : Jvm.MethodName) jdk_42_method_151_code (3 : Nat) (Option.none : Option Jvm.ClassFile.FieldType)).before args0 about1 = true := code_word (m := ⟨7, 5⟩) (meth := k7m5) (c := k7c5) (by decide +kernel) rfl rfl rfl (by decide +kernel)
set_option maxRecDepth 65536 in
theorem w_c11 : (Jvm.Cond.code ({ cls := "com/example/measured_reasoner/measuredreasoner/Summary", name := "<init>", desc := "()V" } : Jvm.MethodName) prog_19_method_1_code (1 : Nat) (Option.none : Option Jvm.ClassFile.FieldType)).before args0 about1 = true := code_word (m := ⟨10, 0⟩) (meth := k10m0) (c := k10c0) (by decide +kernel) rfl rfl rfl (by decide +kernel)
set_option maxRecDepth 65536 in
theorem w_c12 : (Jvm.Cond.code ({ cls := "java/util/ArrayList", name := "<init>", desc := "()V" } : Jvm.MethodName) jdk_38_method_2_code (1 : Nat) (Option.none : Option Jvm.ClassFile.FieldType)).before args0 about1 = true := code_word (m := ⟨19, 0⟩) (meth := k19m0) (c := k19c0) (by decide +kernel) rfl rfl rfl (by decide +kernel)
set_option maxRecDepth 65536 in
theorem w_c13 : (Jvm.Cond.code ({ cls := "java/util/AbstractList", name := "<init>", desc := "()V" } : Jvm.MethodName) jdk_39_method_1_code (1 : Nat) (Option.none : Option Jvm.ClassFile.FieldType)).before args0 about1 = true := code_word (m := ⟨16, 0⟩) (meth := k16m0) (c := k16c0) (by decide +kernel) rfl rfl rfl (by decide +kernel)
set_option maxRecDepth 65536 in
theorem w_c14 : (Jvm.Cond.code ({ cls := "java/util/AbstractCollection", name := "<init>", desc := "()V" } : Jvm.MethodName) jdk_22_method_1_code (1 : Nat) (Option.none : Option Jvm.ClassFile.FieldType)).before args0 about1 = true := code_word (m := ⟨13, 0⟩) (meth := k13m0) (c := k13c0) (by decide +kernel) rfl rfl rfl (by decide +kernel)
set_option maxRecDepth 65536 in
theorem w_c15 : (Jvm.Cond.code ({ cls := "com/example/measured_reasoner/measuredreasoner/Summary", name := "mean", desc := "(Ljava/lang/String;D)Lcom/example/measured_reasoner/measuredreasoner/Summary;" } : Jvm.MethodName) prog_19_method_3_code (4 : Nat) (Option.some (Jvm.ClassFile.FieldType.object "com/example/measured_reasoner/measuredreasoner/Summary"))).before args0 about1 = true := code_word (m := ⟨10, 2⟩) (meth := k10m2) (c := k10c2) (by decide +kernel) rfl rfl rfl (by decide +kernel)
set_option maxRecDepth 65536 in
theorem w_c16 : (Jvm.Cond.code ({ cls := "java/lang/Double", name := "valueOf", desc := "(D)Ljava/lang/Double;" } : Jvm.MethodName) jdk_117_method_4_code (2 : Nat) (Option.some (Jvm.ClassFile.FieldType.object "java/lang/Double"))).before args0 about1 = true := code_word (m := ⟨23, 0⟩) (meth := k23m0) (c := k23c0) (by decide +kernel) rfl rfl rfl (by decide +kernel)
set_option maxRecDepth 65536 in
theorem w_c17 : (Jvm.Cond.code ({ cls := "java/lang/Double", name := "<init>", desc := "(D)V" } : Jvm.MethodName) jdk_117_method_9_code (3 : Nat) (Option.none : Option Jvm.ClassFile.FieldType)).before args0 about1 = true := code_word (m := ⟨23, 1⟩) (meth := k23m1) (c := k23c1) (by decide +kernel) rfl rfl rfl (by decide +kernel)
set_option maxRecDepth 65536 in
theorem w_c18 : (Jvm.Cond.code ({ cls := "java/lang/Number", name := "<init>", desc := "()V" } : Jvm.MethodName) jdk_18_method_1_code (1 : Nat) (Option.none : Option Jvm.ClassFile.FieldType)).before args0 about1 = true := code_word (m := ⟨22, 0⟩) (meth := k22m0) (c := k22c0) (by decide +kernel) rfl rfl rfl (by decide +kernel)
set_option maxRecDepth 65536 in
theorem w_c19 : (Jvm.Cond.code ({ cls := "com/example/measured_reasoner/measuredreasoner/Summary$Field", name := "<init>", desc := "(Ljava/lang/String;Ljava/lang/Number;)V" } : Jvm.MethodName) prog_20_method_1_code (3 : Nat) (Option.none : Option Jvm.ClassFile.FieldType)).before args0 about1 = true := code_word (m := ⟨21, 0⟩) (meth := k21m0) (c := k21c0) (by decide +kernel) rfl rfl rfl (by decide +kernel)
set_option maxRecDepth 65536 in
theorem w_c20 : (Jvm.Cond.code ({ cls := "java/lang/Record", name := "<init>", desc := "()V" } : Jvm.MethodName) jdk_30_method_1_code (1 : Nat) (Option.none : Option Jvm.ClassFile.FieldType)).before args0 about1 = true := code_word (m := ⟨20, 0⟩) (meth := k20m0) (c := k20c0) (by decide +kernel) rfl rfl rfl (by decide +kernel)
set_option maxRecDepth 65536 in
theorem w_c21 : (Jvm.Cond.code ({ cls := "java/util/ArrayList", name := "add", desc := "(Ljava/lang/Object;)Z" } : Jvm.MethodName) jdk_38_method_25_code (2 : Nat) (Option.some Jvm.ClassFile.FieldType.boolean)).before args0 about1 = true := code_word (m := ⟨19, 7⟩) (meth := k19m7) (c := k19c7) (by decide +kernel) rfl rfl rfl (by decide +kernel)
set_option maxRecDepth 65536 in
theorem w_c22 : (Jvm.Cond.code ({ cls := "java/util/ArrayList", name := "add", desc := "(Ljava/lang/Object;[Ljava/lang/Object;I)V" } : Jvm.MethodName) jdk_38_method_24_code (4 : Nat) (Option.none : Option Jvm.ClassFile.FieldType)).before args0 about1 = true := code_word (m := ⟨19, 6⟩) (meth := k19m6) (c := k19c6) (by decide +kernel) rfl rfl rfl (by decide +kernel)
set_option maxRecDepth 65536 in
theorem w_c23 : (Jvm.Cond.code ({ cls := "java/util/ArrayList", name := "grow", desc := "()[Ljava/lang/Object;" } : Jvm.MethodName) jdk_38_method_7_code (1 : Nat) (Option.some (Jvm.ClassFile.FieldType.array (Jvm.ClassFile.FieldType.object "java/lang/Object")))).before args0 about1 = true := code_word (m := ⟨19, 2⟩) (meth := k19m2) (c := k19c2) (by decide +kernel) rfl rfl rfl (by decide +kernel)
set_option maxRecDepth 65536 in
theorem w_c24 : (Jvm.Cond.code ({ cls := "java/util/ArrayList", name := "grow", desc := "(I)[Ljava/lang/Object;" } : Jvm.MethodName) jdk_38_method_6_code (4 : Nat) (Option.some (Jvm.ClassFile.FieldType.array (Jvm.ClassFile.FieldType.object "java/lang/Object")))).before args0 about1 = true := code_word (m := ⟨19, 1⟩) (meth := k19m1) (c := k19c1) (by decide +kernel) rfl rfl rfl (by decide +kernel)
set_option maxRecDepth 65536 in
theorem w_c25 : (Jvm.Cond.code ({ cls := "java/lang/Math", name := "max", desc := "(II)I" } : Jvm.MethodName) jdk_29_method_65_code (2 : Nat) (Option.some Jvm.ClassFile.FieldType.int)).before args0 about1 = true := code_word (m := ⟨24, 1⟩) (meth := k24m1) (c := k24c1) (by decide +kernel) rfl rfl rfl (by decide +kernel)
set_option maxRecDepth 65536 in
theorem w_c26 : (Jvm.Cond.code ({ cls := "com/example/measured_reasoner/measuredreasoner/Summary", name := "fields", desc := "()Ljava/util/List;" } : Jvm.MethodName) prog_19_method_4_code (1 : Nat) (Option.some (Jvm.ClassFile.FieldType.object "java/util/List"))).before args0 about1 = true := code_word (m := ⟨10, 3⟩) (meth := k10m3) (c := k10c3) (by decide +kernel) rfl rfl rfl (by decide +kernel)
set_option maxRecDepth 65536 in
theorem w_c27 : (Jvm.Cond.code ({ cls := "java/util/Collections", name := "unmodifiableList", desc := "(Ljava/util/List;)Ljava/util/List;" } : Jvm.MethodName) jdk_79_method_35_code (1 : Nat) (Option.some (Jvm.ClassFile.FieldType.object "java/util/List"))).before args0 about1 = true := code_word (m := ⟨25, 1⟩) (meth := k25m1) (c := k25c1) (by decide +kernel) rfl rfl rfl (by decide +kernel)
set_option maxRecDepth 65536 in
theorem w_c28 : (Jvm.Cond.code ({ cls := "java/util/Collections$UnmodifiableRandomAccessList", name := "<init>", desc := "(Ljava/util/List;)V" } : Jvm.MethodName) jdk_121_method_1_code (2 : Nat) (Option.none : Option Jvm.ClassFile.FieldType)).before args0 about1 = true := code_word (m := ⟨28, 0⟩) (meth := k28m0) (c := k28c0) (by decide +kernel) rfl rfl rfl (by decide +kernel)
set_option maxRecDepth 65536 in
theorem w_c29 : (Jvm.Cond.code ({ cls := "java/util/Collections$UnmodifiableList", name := "<init>", desc := "(Ljava/util/List;)V" } : Jvm.MethodName) jdk_120_method_1_code (2 : Nat) (Option.none : Option Jvm.ClassFile.FieldType)).before args0 about1 = true := code_word (m := ⟨27, 0⟩) (meth := k27m0) (c := k27c0) (by decide +kernel) rfl rfl rfl (by decide +kernel)
set_option maxRecDepth 65536 in
theorem w_c30 : (Jvm.Cond.code ({ cls := "java/util/Collections$UnmodifiableCollection", name := "<init>", desc := "(Ljava/util/Collection;)V" } : Jvm.MethodName) jdk_119_method_1_code (2 : Nat) (Option.none : Option Jvm.ClassFile.FieldType)).before args0 about1 = true := code_word (m := ⟨26, 0⟩) (meth := k26m0) (c := k26c0) (by decide +kernel) rfl rfl rfl (by decide +kernel)
set_option maxRecDepth 65536 in
theorem w_c31 : (Jvm.Cond.code ({ cls := "java/util/Collections$UnmodifiableCollection", name := "size", desc := "()I" } : Jvm.MethodName) jdk_119_method_2_code (1 : Nat) (Option.some Jvm.ClassFile.FieldType.int)).before args0 about1 = true := code_word (m := ⟨26, 1⟩) (meth := k26m1) (c := k26c1) (by decide +kernel) rfl rfl rfl (by decide +kernel)
set_option maxRecDepth 65536 in
theorem w_c32 : (Jvm.Cond.code ({ cls := "java/util/ArrayList", name := "size", desc := "()I" } : Jvm.MethodName) jdk_38_method_8_code (1 : Nat) (Option.some Jvm.ClassFile.FieldType.int)).before args0 about1 = true := code_word (m := ⟨19, 3⟩) (meth := k19m3) (c := k19c3) (by decide +kernel) rfl rfl rfl (by decide +kernel)
set_option maxRecDepth 65536 in
theorem w_c33 : (Jvm.Cond.code ({ cls := "java/util/Collections$UnmodifiableList", name := "get", desc := "(I)Ljava/lang/Object;" } : Jvm.MethodName) jdk_120_method_4_code (2 : Nat) (Option.some (Jvm.ClassFile.FieldType.object "java/lang/Object"))).before args0 about1 = true := code_word (m := ⟨27, 1⟩) (meth := k27m1) (c := k27c1) (by decide +kernel) rfl rfl rfl (by decide +kernel)
set_option maxRecDepth 65536 in
theorem w_c34 : (Jvm.Cond.code ({ cls := "java/util/ArrayList", name := "get", desc := "(I)Ljava/lang/Object;" } : Jvm.MethodName) jdk_38_method_20_code (2 : Nat) (Option.some (Jvm.ClassFile.FieldType.object "java/lang/Object"))).before args0 about1 = true := code_word (m := ⟨19, 5⟩) (meth := k19m5) (c := k19c5) (by decide +kernel) rfl rfl rfl (by decide +kernel)
set_option maxRecDepth 65536 in
theorem w_c35 : (Jvm.Cond.code ({ cls := "java/util/Objects", name := "checkIndex", desc := "(II)I" } : Jvm.MethodName) jdk_31_method_17_code (2 : Nat) (Option.some Jvm.ClassFile.FieldType.int)).before args0 about1 = true := code_word (m := ⟨29, 1⟩) (meth := k29m1) (c := k29c1) (by decide +kernel) rfl rfl rfl (by decide +kernel)
set_option maxRecDepth 65536 in
theorem w_c36 : (Jvm.Cond.code ({ cls := "jdk/internal/util/Preconditions", name := "checkIndex", desc := "(IILjava/util/function/BiFunction;)I" } : Jvm.MethodName) jdk_41_method_11_code (3 : Nat) (Option.some Jvm.ClassFile.FieldType.int)).before args0 about1 = true := code_word (m := ⟨30, 1⟩) (meth := k30m1) (c := k30c1) (by decide +kernel) rfl rfl rfl (by decide +kernel)
set_option maxRecDepth 65536 in
theorem w_c37 : (Jvm.Cond.code ({ cls := "java/util/ArrayList", name := "elementData", desc := "(I)Ljava/lang/Object;" } : Jvm.MethodName) jdk_38_method_18_code (2 : Nat) (Option.some (Jvm.ClassFile.FieldType.object "java/lang/Object"))).before args0 about1 = true := code_word (m := ⟨19, 4⟩) (meth := k19m4) (c := k19c4) (by decide +kernel) rfl rfl rfl (by decide +kernel)
set_option maxRecDepth 65536 in
theorem w_c38 : (Jvm.Cond.code ({ cls := "com/example/measured_reasoner/measuredreasoner/Summary$Field", name := "name", desc := "()Ljava/lang/String;" } : Jvm.MethodName) prog_20_method_7_code (1 : Nat) (Option.some (Jvm.ClassFile.FieldType.object "java/lang/String"))).before args0 about1 = true := code_word (m := ⟨21, 1⟩) (meth := k21m1) (c := k21c1) (by decide +kernel) rfl rfl rfl (by decide +kernel)
set_option maxRecDepth 65536 in
theorem w_c39 : (Jvm.Cond.code ({ cls := "java/lang/String", name := "equals", desc := "(Ljava/lang/Object;)Z" } : Jvm.MethodName) jdk_42_method_66_code (3 : Nat) (Option.some Jvm.ClassFile.FieldType.boolean)).before args0 about1 = true := code_word (m := ⟨7, 2⟩) (meth := k7m2) (c := k7c2) (by decide +kernel) rfl rfl rfl (by decide +kernel)
set_option maxRecDepth 65536 in
theorem w_c40 : (Jvm.Cond.code ({ cls := "com/example/measured_reasoner/measuredreasoner/Summary$Field", name := "value", desc := "()Ljava/lang/Number;" } : Jvm.MethodName) prog_20_method_8_code (1 : Nat) (Option.some (Jvm.ClassFile.FieldType.object "java/lang/Number"))).before args0 about1 = true := code_word (m := ⟨21, 2⟩) (meth := k21m2) (c := k21c2) (by decide +kernel) rfl rfl rfl (by decide +kernel)
set_option maxRecDepth 65536 in
theorem w_c41 : (Jvm.Cond.code ({ cls := "java/lang/Double", name := "doubleValue", desc := "()D" } : Jvm.MethodName) jdk_117_method_19_code (1 : Nat) (Option.some Jvm.ClassFile.FieldType.double)).before args0 about1 = true := code_word (m := ⟨23, 2⟩) (meth := k23m2) (c := k23c2) (by decide +kernel) rfl rfl rfl (by decide +kernel)
set_option maxRecDepth 65536 in
theorem w_c42 : (Jvm.Cond.code ({ cls := "com/example/measured_reasoner/measuredreasoner/Summary", name := "count", desc := "(Ljava/lang/String;J)Lcom/example/measured_reasoner/measuredreasoner/Summary;" } : Jvm.MethodName) prog_19_method_2_code (4 : Nat) (Option.some (Jvm.ClassFile.FieldType.object "com/example/measured_reasoner/measuredreasoner/Summary"))).before args0 about1 = true := code_word (m := ⟨10, 1⟩) (meth := k10m1) (c := k10c1) (by decide +kernel) rfl rfl rfl (by decide +kernel)
set_option maxRecDepth 65536 in
theorem w_c43 : (Jvm.Cond.code ({ cls := "java/lang/Long", name := "valueOf", desc := "(J)Ljava/lang/Long;" } : Jvm.MethodName) jdk_35_method_24_code (3 : Nat) (Option.some (Jvm.ClassFile.FieldType.object "java/lang/Long"))).before args0 about1 = true := code_word (m := ⟨31, 0⟩) (meth := k31m0) (c := k31c0) (by decide +kernel) rfl rfl rfl (by decide +kernel)
set_option maxRecDepth 65536 in
theorem w_c44 : (Jvm.Cond.code ({ cls := "java/lang/Long", name := "longValue", desc := "()J" } : Jvm.MethodName) jdk_35_method_31_code (1 : Nat) (Option.some Jvm.ClassFile.FieldType.long)).before args0 about1 = true := code_word (m := ⟨31, 2⟩) (meth := k31m2) (c := k31c2) (by decide +kernel) rfl rfl rfl (by decide +kernel)
set_option maxRecDepth 65536 in
theorem w_c45 : (Jvm.Cond.code ({ cls := "java/lang/Long", name := "<init>", desc := "(J)V" } : Jvm.MethodName) jdk_35_method_26_code (3 : Nat) (Option.none : Option Jvm.ClassFile.FieldType)).before args0 about1 = true := code_word (m := ⟨31, 1⟩) (meth := k31m1) (c := k31c1) (by decide +kernel) rfl rfl rfl (by decide +kernel)
def codes1 : List Jvm.Cond := [Jvm.Cond.code x code maxLocals ret, Jvm.Cond.code ({ cls := "java/lang/String", name := "<init>", desc := "([C)V" } : Jvm.MethodName) jdk_42_method_3_code (2 : Nat) (Option.none : Option Jvm.ClassFile.FieldType), Jvm.Cond.code ({ cls := "java/lang/String", name := "<init>", desc := "([CIILjava/lang/Void;)V" } : Jvm.MethodName) jdk_42_method_149_code (6 : Nat) (Option.none : Option Jvm.ClassFile.FieldType), Jvm.Cond.code ({ cls := "java/lang/Object", name := "<init>", desc := "()V" } : Jvm.MethodName) object_method_1_code (1 : Nat) (Option.none : Option Jvm.ClassFile.FieldType), Jvm.Cond.code ({ cls := "java/lang/StringUTF16", name := "compress", desc := "([CII)[B" } : Jvm.MethodName) jdk_52_method_16_code (6 : Nat) (Option.some (Jvm.ClassFile.FieldType.array Jvm.ClassFile.FieldType.byte)), Jvm.Cond.code ({ cls := "java/lang/StringUTF16", name := "compress", desc := "([CI[BII)I" } : Jvm.MethodName) jdk_52_method_21_code (7 : Nat) (Option.some Jvm.ClassFile.FieldType.int), Jvm.Cond.code ({ cls := "java/lang/StringUTF16", name := "coderFromArrayLen", desc := "([BI)B" } : Jvm.MethodName) jdk_52_method_15_code (2 : Nat) (Option.some Jvm.ClassFile.FieldType.byte), Jvm.Cond.code ({ cls := "java/lang/String", name := "valueOf", desc := "(C)Ljava/lang/String;" } : Jvm.MethodName) jdk_42_method_139_code (1 : Nat) (Option.some (Jvm.ClassFile.FieldType.object "java/lang/String")), Jvm.Cond.code ({ cls := "java/lang/StringLatin1", name := "canEncode", desc := "(C)Z" } : Jvm.MethodName) jdk_43_method_3_code (1 : Nat) (Option.some Jvm.ClassFile.FieldType.boolean), Jvm.Cond.code ({ cls := "java/lang/StringLatin1", name := "toBytes", desc := "(C)[B" } : Jvm.MethodName) jdk_43_method_46_code (1 : Nat) (Option.some (Jvm.ClassFile.FieldType.array Jvm.ClassFile.FieldType.byte)), Jvm.Cond.code ({ cls := "java/lang/String", name := "<init>", desc := "([BB)V" } : Jvm.MethodName) jdk_42_method_151_code (3 : Nat) (Option.none : Option Jvm.ClassFile.FieldType), Jvm.Cond.code ({ cls := "com/example/measured_reasoner/measuredreasoner/Summary", name := "<init>", desc := "()V" } : Jvm.MethodName) prog_19_method_1_code (1 : Nat) (Option.none : Option Jvm.ClassFile.FieldType), Jvm.Cond.code ({ cls := "java/util/ArrayList", name := "<init>", desc := "()V" } : Jvm.MethodName) jdk_38_method_2_code (1 : Nat) (Option.none : Option Jvm.ClassFile.FieldType), Jvm.Cond.code ({ cls := "java/util/AbstractList", name := "<init>", desc := "()V" } : Jvm.MethodName) jdk_39_method_1_code (1 : Nat) (Option.none : Option Jvm.ClassFile.FieldType), Jvm.Cond.code ({ cls := "java/util/AbstractCollection", name := "<init>", desc := "()V" } : Jvm.MethodName) jdk_22_method_1_code (1 : Nat) (Option.none : Option Jvm.ClassFile.FieldType), Jvm.Cond.code ({ cls := "com/example/measured_reasoner/measuredreasoner/Summary", name := "mean", desc := "(Ljava/lang/String;D)Lcom/example/measured_reasoner/measuredreasoner/Summary;" } : Jvm.MethodName) prog_19_method_3_code (4 : Nat) (Option.some (Jvm.ClassFile.FieldType.object "com/example/measured_reasoner/measuredreasoner/Summary")), Jvm.Cond.code ({ cls := "java/lang/Double", name := "valueOf", desc := "(D)Ljava/lang/Double;" } : Jvm.MethodName) jdk_117_method_4_code (2 : Nat) (Option.some (Jvm.ClassFile.FieldType.object "java/lang/Double")), Jvm.Cond.code ({ cls := "java/lang/Double", name := "<init>", desc := "(D)V" } : Jvm.MethodName) jdk_117_method_9_code (3 : Nat) (Option.none : Option Jvm.ClassFile.FieldType), Jvm.Cond.code ({ cls := "java/lang/Number", name := "<init>", desc := "()V" } : Jvm.MethodName) jdk_18_method_1_code (1 : Nat) (Option.none : Option Jvm.ClassFile.FieldType), Jvm.Cond.code ({ cls := "com/example/measured_reasoner/measuredreasoner/Summary$Field", name := "<init>", desc := "(Ljava/lang/String;Ljava/lang/Number;)V" } : Jvm.MethodName) prog_20_method_1_code (3 : Nat) (Option.none : Option Jvm.ClassFile.FieldType), Jvm.Cond.code ({ cls := "java/lang/Record", name := "<init>", desc := "()V" } : Jvm.MethodName) jdk_30_method_1_code (1 : Nat) (Option.none : Option Jvm.ClassFile.FieldType), Jvm.Cond.code ({ cls := "java/util/ArrayList", name := "add", desc := "(Ljava/lang/Object;)Z" } : Jvm.MethodName) jdk_38_method_25_code (2 : Nat) (Option.some Jvm.ClassFile.FieldType.boolean), Jvm.Cond.code ({ cls := "java/util/ArrayList", name := "add", desc := "(Ljava/lang/Object;[Ljava/lang/Object;I)V" } : Jvm.MethodName) jdk_38_method_24_code (4 : Nat) (Option.none : Option Jvm.ClassFile.FieldType), Jvm.Cond.code ({ cls := "java/util/ArrayList", name := "grow", desc := "()[Ljava/lang/Object;" } : Jvm.MethodName) jdk_38_method_7_code (1 : Nat) (Option.some (Jvm.ClassFile.FieldType.array (Jvm.ClassFile.FieldType.object "java/lang/Object"))), Jvm.Cond.code ({ cls := "java/util/ArrayList", name := "grow", desc := "(I)[Ljava/lang/Object;" } : Jvm.MethodName) jdk_38_method_6_code (4 : Nat) (Option.some (Jvm.ClassFile.FieldType.array (Jvm.ClassFile.FieldType.object "java/lang/Object"))), Jvm.Cond.code ({ cls := "java/lang/Math", name := "max", desc := "(II)I" } : Jvm.MethodName) jdk_29_method_65_code (2 : Nat) (Option.some Jvm.ClassFile.FieldType.int), Jvm.Cond.code ({ cls := "com/example/measured_reasoner/measuredreasoner/Summary", name := "fields", desc := "()Ljava/util/List;" } : Jvm.MethodName) prog_19_method_4_code (1 : Nat) (Option.some (Jvm.ClassFile.FieldType.object "java/util/List")), Jvm.Cond.code ({ cls := "java/util/Collections", name := "unmodifiableList", desc := "(Ljava/util/List;)Ljava/util/List;" } : Jvm.MethodName) jdk_79_method_35_code (1 : Nat) (Option.some (Jvm.ClassFile.FieldType.object "java/util/List")), Jvm.Cond.code ({ cls := "java/util/Collections$UnmodifiableRandomAccessList", name := "<init>", desc := "(Ljava/util/List;)V" } : Jvm.MethodName) jdk_121_method_1_code (2 : Nat) (Option.none : Option Jvm.ClassFile.FieldType), Jvm.Cond.code ({ cls := "java/util/Collections$UnmodifiableList", name := "<init>", desc := "(Ljava/util/List;)V" } : Jvm.MethodName) jdk_120_method_1_code (2 : Nat) (Option.none : Option Jvm.ClassFile.FieldType), Jvm.Cond.code ({ cls := "java/util/Collections$UnmodifiableCollection", name := "<init>", desc := "(Ljava/util/Collection;)V" } : Jvm.MethodName) jdk_119_method_1_code (2 : Nat) (Option.none : Option Jvm.ClassFile.FieldType), Jvm.Cond.code ({ cls := "java/util/Collections$UnmodifiableCollection", name := "size", desc := "()I" } : Jvm.MethodName) jdk_119_method_2_code (1 : Nat) (Option.some Jvm.ClassFile.FieldType.int), Jvm.Cond.code ({ cls := "java/util/ArrayList", name := "size", desc := "()I" } : Jvm.MethodName) jdk_38_method_8_code (1 : Nat) (Option.some Jvm.ClassFile.FieldType.int), Jvm.Cond.code ({ cls := "java/util/Collections$UnmodifiableList", name := "get", desc := "(I)Ljava/lang/Object;" } : Jvm.MethodName) jdk_120_method_4_code (2 : Nat) (Option.some (Jvm.ClassFile.FieldType.object "java/lang/Object")), Jvm.Cond.code ({ cls := "java/util/ArrayList", name := "get", desc := "(I)Ljava/lang/Object;" } : Jvm.MethodName) jdk_38_method_20_code (2 : Nat) (Option.some (Jvm.ClassFile.FieldType.object "java/lang/Object")), Jvm.Cond.code ({ cls := "java/util/Objects", name := "checkIndex", desc := "(II)I" } : Jvm.MethodName) jdk_31_method_17_code (2 : Nat) (Option.some Jvm.ClassFile.FieldType.int), Jvm.Cond.code ({ cls := "jdk/internal/util/Preconditions", name := "checkIndex", desc := "(IILjava/util/function/BiFunction;)I" } : Jvm.MethodName) jdk_41_method_11_code (3 : Nat) (Option.some Jvm.ClassFile.FieldType.int), Jvm.Cond.code ({ cls := "java/util/ArrayList", name := "elementData", desc := "(I)Ljava/lang/Object;" } : Jvm.MethodName) jdk_38_method_18_code (2 : Nat) (Option.some (Jvm.ClassFile.FieldType.object "java/lang/Object")), Jvm.Cond.code ({ cls := "com/example/measured_reasoner/measuredreasoner/Summary$Field", name := "name", desc := "()Ljava/lang/String;" } : Jvm.MethodName) prog_20_method_7_code (1 : Nat) (Option.some (Jvm.ClassFile.FieldType.object "java/lang/String")), Jvm.Cond.code ({ cls := "java/lang/String", name := "equals", desc := "(Ljava/lang/Object;)Z" } : Jvm.MethodName) jdk_42_method_66_code (3 : Nat) (Option.some Jvm.ClassFile.FieldType.boolean), Jvm.Cond.code ({ cls := "com/example/measured_reasoner/measuredreasoner/Summary$Field", name := "value", desc := "()Ljava/lang/Number;" } : Jvm.MethodName) prog_20_method_8_code (1 : Nat) (Option.some (Jvm.ClassFile.FieldType.object "java/lang/Number")), Jvm.Cond.code ({ cls := "java/lang/Double", name := "doubleValue", desc := "()D" } : Jvm.MethodName) jdk_117_method_19_code (1 : Nat) (Option.some Jvm.ClassFile.FieldType.double), Jvm.Cond.code ({ cls := "com/example/measured_reasoner/measuredreasoner/Summary", name := "count", desc := "(Ljava/lang/String;J)Lcom/example/measured_reasoner/measuredreasoner/Summary;" } : Jvm.MethodName) prog_19_method_2_code (4 : Nat) (Option.some (Jvm.ClassFile.FieldType.object "com/example/measured_reasoner/measuredreasoner/Summary")), Jvm.Cond.code ({ cls := "java/lang/Long", name := "valueOf", desc := "(J)Ljava/lang/Long;" } : Jvm.MethodName) jdk_35_method_24_code (3 : Nat) (Option.some (Jvm.ClassFile.FieldType.object "java/lang/Long")), Jvm.Cond.code ({ cls := "java/lang/Long", name := "longValue", desc := "()J" } : Jvm.MethodName) jdk_35_method_31_code (1 : Nat) (Option.some Jvm.ClassFile.FieldType.long), Jvm.Cond.code ({ cls := "java/lang/Long", name := "<init>", desc := "(J)V" } : Jvm.MethodName) jdk_35_method_26_code (3 : Nat) (Option.none : Option Jvm.ClassFile.FieldType)]
set_option maxRecDepth 65536 in
theorem codes_eq : words1.filter isCode = codes1 := rfl
theorem w_codes : ∀ c ∈ words1.filter isCode, c.before args0 about1 = true := by
  rw [codes_eq]
  intro c hc
  simp only [codes1, List.mem_cons, List.not_mem_nil, or_false] at hc
  rcases hc with rfl | rfl | rfl | rfl | rfl | rfl | rfl | rfl | rfl | rfl | rfl | rfl | rfl | rfl | rfl | rfl | rfl | rfl | rfl | rfl | rfl | rfl | rfl | rfl | rfl | rfl | rfl | rfl | rfl | rfl | rfl | rfl | rfl | rfl | rfl | rfl | rfl | rfl | rfl | rfl | rfl | rfl | rfl | rfl | rfl | rfl
  · exact w_c0
  · exact w_c1
  · exact w_c2
  · exact w_c3
  · exact w_c4
  · exact w_c5
  · exact w_c6
  · exact w_c7
  · exact w_c8
  · exact w_c9
  · exact w_c10
  · exact w_c11
  · exact w_c12
  · exact w_c13
  · exact w_c14
  · exact w_c15
  · exact w_c16
  · exact w_c17
  · exact w_c18
  · exact w_c19
  · exact w_c20
  · exact w_c21
  · exact w_c22
  · exact w_c23
  · exact w_c24
  · exact w_c25
  · exact w_c26
  · exact w_c27
  · exact w_c28
  · exact w_c29
  · exact w_c30
  · exact w_c31
  · exact w_c32
  · exact w_c33
  · exact w_c34
  · exact w_c35
  · exact w_c36
  · exact w_c37
  · exact w_c38
  · exact w_c39
  · exact w_c40
  · exact w_c41
  · exact w_c42
  · exact w_c43
  · exact w_c44
  · exact w_c45
set_option maxRecDepth 65536 in
theorem w_t1 : (words1.take 24).all (fun c => isCode c || c.before args0 about1) = true := by decide +kernel
set_option maxRecDepth 65536 in
theorem w_t2 : ((words1.drop 24).take 24).all (fun c => isCode c || c.before args0 about1) = true := by decide +kernel
set_option maxRecDepth 65536 in
theorem w_t3 : (((words1.drop 24).drop 24).take 24).all (fun c => isCode c || c.before args0 about1) = true := by decide +kernel
set_option maxRecDepth 65536 in
theorem w_t4 : ((((words1.drop 24).drop 24).drop 24).take 24).all (fun c => isCode c || c.before args0 about1) = true := by decide +kernel
set_option maxRecDepth 65536 in
theorem w_t5 : (((((words1.drop 24).drop 24).drop 24).drop 24).take 24).all (fun c => isCode c || c.before args0 about1) = true := by decide +kernel
set_option maxRecDepth 65536 in
theorem w_t6 : ((((((words1.drop 24).drop 24).drop 24).drop 24).drop 24).take 24).all (fun c => isCode c || c.before args0 about1) = true := by decide +kernel
set_option maxRecDepth 65536 in
theorem w_t7 : (((((((words1.drop 24).drop 24).drop 24).drop 24).drop 24).drop 24).take 24).all (fun c => isCode c || c.before args0 about1) = true := by decide +kernel
set_option maxRecDepth 65536 in
theorem w_t8 : ((((((((words1.drop 24).drop 24).drop 24).drop 24).drop 24).drop 24).drop 24).take 24).all (fun c => isCode c || c.before args0 about1) = true := by decide +kernel
set_option maxRecDepth 65536 in
theorem w_t9 : (((((((((words1.drop 24).drop 24).drop 24).drop 24).drop 24).drop 24).drop 24).drop 24).take 24).all (fun c => isCode c || c.before args0 about1) = true := by decide +kernel
set_option maxRecDepth 65536 in
theorem w_t10 : ((((((((((words1.drop 24).drop 24).drop 24).drop 24).drop 24).drop 24).drop 24).drop 24).drop 24).take 24).all (fun c => isCode c || c.before args0 about1) = true := by decide +kernel
set_option maxRecDepth 65536 in
theorem w_t11 : (((((((((((words1.drop 24).drop 24).drop 24).drop 24).drop 24).drop 24).drop 24).drop 24).drop 24).drop 24).take 24).all (fun c => isCode c || c.before args0 about1) = true := by decide +kernel
set_option maxRecDepth 65536 in
theorem w_t12 : ((((((((((((words1.drop 24).drop 24).drop 24).drop 24).drop 24).drop 24).drop 24).drop 24).drop 24).drop 24).drop 24).take 24).all (fun c => isCode c || c.before args0 about1) = true := by decide +kernel
set_option maxRecDepth 65536 in
theorem w_t13 : ((((((((((((words1.drop 24).drop 24).drop 24).drop 24).drop 24).drop 24).drop 24).drop 24).drop 24).drop 24).drop 24).drop 24).all (fun c => isCode c || c.before args0 about1) = true := by decide +kernel
theorem w_tables : (allAtoms (Jvm.Cond.code x code maxLocals ret :: tables_1)).before args0 about1 = true := by
  rw [allAtoms_all]
  show words1.all (fun c => c.before args0 about1) = true
  refine all_split ?_ w_codes
  rw [← List.take_append_drop 24 words1, List.all_append, w_t1, ← List.take_append_drop 24 (words1.drop 24), List.all_append, w_t2, ← List.take_append_drop 24 ((words1.drop 24).drop 24), List.all_append, w_t3, ← List.take_append_drop 24 (((words1.drop 24).drop 24).drop 24), List.all_append, w_t4, ← List.take_append_drop 24 ((((words1.drop 24).drop 24).drop 24).drop 24), List.all_append, w_t5, ← List.take_append_drop 24 (((((words1.drop 24).drop 24).drop 24).drop 24).drop 24), List.all_append, w_t6, ← List.take_append_drop 24 ((((((words1.drop 24).drop 24).drop 24).drop 24).drop 24).drop 24), List.all_append, w_t7, ← List.take_append_drop 24 (((((((words1.drop 24).drop 24).drop 24).drop 24).drop 24).drop 24).drop 24), List.all_append, w_t8, ← List.take_append_drop 24 ((((((((words1.drop 24).drop 24).drop 24).drop 24).drop 24).drop 24).drop 24).drop 24), List.all_append, w_t9, ← List.take_append_drop 24 (((((((((words1.drop 24).drop 24).drop 24).drop 24).drop 24).drop 24).drop 24).drop 24).drop 24), List.all_append, w_t10, ← List.take_append_drop 24 ((((((((((words1.drop 24).drop 24).drop 24).drop 24).drop 24).drop 24).drop 24).drop 24).drop 24).drop 24), List.all_append, w_t11, ← List.take_append_drop 24 (((((((((((words1.drop 24).drop 24).drop 24).drop 24).drop 24).drop 24).drop 24).drop 24).drop 24).drop 24).drop 24), List.all_append, w_t12, w_t13]
  rfl
set_option maxRecDepth 65536 in
theorem w_rest : rest_1_c.before args0 about1 = true := by decide +kernel
set_option maxRecDepth 65536 in
theorem w_case : (Jvm.Cond.and given_1 narrow_1).before args0 about1 = true := by decide +kernel
theorem w_applies : (headSpec (Jvm.Cond.code x code maxLocals ret :: tables_1) room_1).applies x e0.platform about1 = true :=
  (Spec.applies_iff w_frames).mpr ⟨w_running, w_runnable, w_alone, w_named, w_hears, w_ripe, w_room, w_tables⟩
set_option maxRecDepth 65536 in
theorem atStart : AtStart classFile x code maxLocals ret World_1 tables_1 room_1 Calls_1 rest_1 Pre_1 launch0 p0 e0 about1 theMethod args0 below0 :=
  ⟨lists_1, trivial, launch0.admits_env _ _ _, launch0.least_env, fairChoices_fair.cas, fairChoices_fair.clock, w_frames, w_args, w_heap, w_applies, ⟨⟨19, k19, 4, by decide +kernel, rfl, rfl, _, rfl, rfl⟩, ⟨⟨27, k27, 5, by decide +kernel, rfl, rfl, _, rfl, rfl⟩, ⟨⟨28, k28, 6, by decide +kernel, rfl, rfl, _, rfl, rfl⟩, trivial⟩⟩⟩, w_rest, w_case⟩
end start1
theorem witness_1 : WitnessClaimed_1 := ⟨start1.p0, start1.e0, start1.about1, start1.theMethod, start1.args0, start1.below0, start1.atStart⟩
end Jvm.Pilot.@@N@@
