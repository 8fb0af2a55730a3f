import PyProof.Rows.All
import Wide.All
import OpenK.AllK
import Wide.FinOn
import PySem.Challenge.RW_ak5013_01
set_option Elab.async false
set_option maxRecDepth 100000
set_option maxHeartbeats 8000000

-- 1. the doubles n/2: exact laws
namespace AkHaab
open PySem PySem.Float64

def mag (N k : Nat) : Nat := if N = 0 then 0 else (k - (52 - N.log2)) * 2 ^ 52 + N * 2 ^ (52 - N.log2)
theorem mag_q {N : Nat} (h0 : N ≠ 0) (h : N < 2 ^ 53) : 2 ^ 52 ≤ N * 2 ^ (52 - N.log2) ∧ N * 2 ^ (52 - N.log2) < 2 ^ 53 ∧ N.log2 ≤ 52 := by
  have h1 := Nat.log2_self_le h0
  have h2 := @Nat.lt_log2_self N
  have h3 : N.log2 < 53 := (Nat.log2_lt h0).mpr h
  have e : 2 ^ N.log2 * 2 ^ (52 - N.log2) = 2 ^ 52 := by rw [← Nat.pow_add]; congr 1; omega
  have e2 : 2 ^ (N.log2 + 1) * 2 ^ (52 - N.log2) = 2 ^ 53 := by rw [← Nat.pow_add]; congr 1; omega
  refine ⟨?_, ?_, by omega⟩
  · rw [← e]; exact Nat.mul_le_mul_right _ h1
  · rw [← e2]; exact Nat.mul_lt_mul_of_pos_right h2 (Nat.two_pow_pos _)
theorem V_mag {N k : Nat} (h : N < 2 ^ 53) (hk : 52 ≤ k) : V (mag N k) = N * 2 ^ k := by
  unfold mag
  split
  · rename_i h0; subst h0; rw [V_zero]; simp
  · rename_i h0
    obtain ⟨h1, h2, h3⟩ := mag_q h0 h
    rw [V_at (by omega) (.inl h1), Nat.mul_assoc, ← Nat.pow_add]
    congr 2; omega
theorem mag_lt {N k : Nat} (h : N < 2 ^ 53) (hk : k ≤ 1500) : mag N k < infMag := by
  have hi : infMag = 2047 * 2 ^ 52 := rfl
  unfold mag
  split
  · omega
  · rename_i h0
    obtain ⟨h1, h2, h3⟩ := mag_q h0 h
    generalize N * 2 ^ (52 - N.log2) = q at *
    have : (k - (52 - N.log2)) * 2 ^ 52 ≤ 1500 * 2 ^ 52 := Nat.mul_le_mul_right _ (by omega)
    omega

theorem V_inj {t t' : Nat} (h : V t = V t') : t = t' := by
  rcases Nat.lt_trichotomy t t' with h1 | h1 | h1
  · have := V_lt h1; omega
  · exact h1
  · have := V_lt h1; omega

/-- an exact value is hit -/
theorem right_exact {r : UInt64} {neg : Bool} {W D t : Nat} (hr : Right r neg W D) (hD : 0 < D) (ht : t < infMag) (hW : W = D * V t) : r = pack neg t := by
  obtain ⟨u, hu, hle, hinf, hnear⟩ := hr
  have hne : u ≠ infMag := by
    intro h
    have := hinf.mp h
    have hV : V t ≤ (2 ^ 53 - 1) * 2 ^ 2045 := by
      have hA : V (infMag - 1) = (2 ^ 53 - 1) * 2 ^ 2045 := by
        have e : infMag - 1 = 2045 * 2 ^ 52 + (2 ^ 53 - 1) := by unfold infMag; omega
        rw [e]
        exact V_at (k := 2045) (q := 2 ^ 53 - 1) (by omega) (.inl (by omega))
      rw [← hA]; exact V_mono (by omega)
    have h2 : D * V t ≤ D * ((2 ^ 53 - 1) * 2 ^ 2045) := Nat.mul_le_mul_left _ hV
    have h3 : D * (2 * ((2 ^ 53 - 1) * 2 ^ 2045)) < D * ((2 ^ 54 - 1) * 2 ^ 2045) := by
      refine Nat.mul_lt_mul_of_pos_left ?_ hD
      have : 0 < 2 ^ 2045 := Nat.two_pow_pos _
      generalize 2 ^ 2045 = Z at *
      omega
    have h4 : D * (2 * ((2 ^ 53 - 1) * 2 ^ 2045)) = 2 * (D * ((2 ^ 53 - 1) * 2 ^ 2045)) := Nat.mul_left_comm _ _ _
    generalize D * ((2 ^ 54 - 1) * 2 ^ 2045) = y at *
    generalize D * ((2 ^ 53 - 1) * 2 ^ 2045) = x at *
    generalize D * (2 * ((2 ^ 53 - 1) * 2 ^ 2045)) = z at *
    omega
  have h := (hnear (by omega) t).1
  rw [hW] at h
  have h5 : D * V u = D * V t := by unfold dist at h; omega
  rw [hu, V_inj (Nat.eq_of_mul_eq_mul_left hD h5)]

/-- a nearest float does not cross a float -/
theorem right_mono {r : UInt64} {neg : Bool} {W D lo hi : Nat} (hr : Right r neg W D) (hD : 0 < D) (hhi : hi < infMag) (hWlo : D * V lo ≤ W) (hWhi : W ≤ D * V hi) :
    ∃ u, r = pack neg u ∧ u < infMag ∧ V lo ≤ V u ∧ V u ≤ V hi := by
  obtain ⟨u, hu, hle, hinf, hnear⟩ := hr
  have hne : u ≠ infMag := by
    intro h
    have := hinf.mp h
    have hV : V hi ≤ (2 ^ 53 - 1) * 2 ^ 2045 := by
      have hA : V (infMag - 1) = (2 ^ 53 - 1) * 2 ^ 2045 := by
        have e : infMag - 1 = 2045 * 2 ^ 52 + (2 ^ 53 - 1) := by unfold infMag; omega
        rw [e]
        exact V_at (k := 2045) (q := 2 ^ 53 - 1) (by omega) (.inl (by omega))
      rw [← hA]; exact V_mono (by omega)
    have h2 : D * V hi ≤ D * ((2 ^ 53 - 1) * 2 ^ 2045) := Nat.mul_le_mul_left _ hV
    have h3 : D * (2 * ((2 ^ 53 - 1) * 2 ^ 2045)) < D * ((2 ^ 54 - 1) * 2 ^ 2045) := by
      refine Nat.mul_lt_mul_of_pos_left ?_ hD
      have : 0 < 2 ^ 2045 := Nat.two_pow_pos _
      generalize 2 ^ 2045 = Z at *
      omega
    have h4 : D * (2 * ((2 ^ 53 - 1) * 2 ^ 2045)) = 2 * (D * ((2 ^ 53 - 1) * 2 ^ 2045)) := Nat.mul_left_comm _ _ _
    generalize D * ((2 ^ 54 - 1) * 2 ^ 2045) = y at *
    generalize D * ((2 ^ 53 - 1) * 2 ^ 2045) = x at *
    generalize D * (2 * ((2 ^ 53 - 1) * 2 ^ 2045)) = z at *
    omega
  have hlt : u < infMag := by omega
  refine ⟨u, hu, hlt, ?_, ?_⟩
  · have h := (hnear hlt lo).1
    rcases Nat.lt_or_ge (V u) (V lo) with h6 | h6
    · have h7 : D * V u < D * V lo := Nat.mul_lt_mul_of_pos_left h6 hD
      unfold dist at h; omega
    · exact h6
  · have h := (hnear hlt hi).1
    rcases Nat.lt_or_ge (V hi) (V u) with h6 | h6
    · have h7 : D * V hi < D * V u := Nat.mul_lt_mul_of_pos_left h6 hD
      unfold dist at h; omega
    · exact h6

/-- the double n/2 -/
def hf (n : Int) : UInt64 := pack (decide (n < 0)) (mag n.natAbs 1073)
/-- fits -/
def Fit (n : Int) : Prop := -9007199254740992 < n ∧ n < 9007199254740992
theorem Fit.nat {n : Int} (h : Fit n) : n.natAbs < 2 ^ 53 := by unfold Fit at h; omega

theorem hf_dec {n : Int} (h : Fit n) : ∃ m e, decode (hf n) = .fin (decide (n < 0)) m e ∧ m * 2 ^ (e + 1074).toNat = n.natAbs * 2 ^ 1073 := by
  obtain ⟨m, e, h1, h2⟩ := decode_pack (decide (n < 0)) (mag_lt h.nat (k := 1073) (by decide))
  exact ⟨m, e, h1, by rw [h2, V_mag h.nat (by decide)]⟩
theorem hf_val {n : Int} (h : Fit n) : val (hf n) = n * 2 ^ 1073 := by
  unfold hf
  rw [val_pack _ (mag_lt h.nat (by decide)), V_mag h.nat (by decide), sgn_mul]
  have : sgn (decide (n < 0)) n.natAbs = n := by
    unfold sgn
    by_cases h0 : n < 0
    · simp only [h0, decide_true, if_true]; omega
    · simp only [h0, decide_false]; simp; omega
  rw [this]
  have e : ((2 ^ 1073 : Nat) : Int) = 2 ^ 1073 := by simp
  rw [e]
theorem p1073 : (0 : Int) < 2 ^ 1073 := by
  have : ((2 ^ 1073 : Nat) : Int) = 2 ^ 1073 := by simp
  rw [← this]; exact Int.ofNat_lt.mpr (Nat.two_pow_pos _)
theorem hf_zero : zero false = hf 0 := by decide +kernel

theorem hf_of_right {r : UInt64} {n : Int} (h : Fit n) (hr : Right r (decide (n * 2 ^ 1073 < 0)) (n * 2 ^ 1073).natAbs 1) : r = hf n := by
  have e : decide (n * 2 ^ 1073 < 0) = decide (n < 0) := by
    apply decide_eq_decide.mpr
    constructor
    · intro h1
      by_cases h2 : n < 0
      · exact h2
      · have := Int.mul_nonneg (show 0 ≤ n by omega) (Int.le_of_lt p1073); omega
    · intro h1; exact Int.mul_neg_of_neg_of_pos h1 p1073
  rw [e] at hr
  refine right_exact hr (by decide) (mag_lt h.nat (by decide)) ?_
  rw [V_mag h.nat (by decide), Nat.one_mul, Int.natAbs_mul]
  congr 1

theorem hf_add {a b : Int} (ha : Fit a) (hb : Fit b) (h : Fit (a + b)) : add (hf a) (hf b) = hf (a + b) := by
  obtain ⟨m, e, h1, _⟩ := hf_dec ha
  obtain ⟨k, f, h2, _⟩ := hf_dec hb
  have hr := add_right h1 h2
  rw [hf_val ha, hf_val hb, ← Int.add_mul] at hr
  by_cases h0 : a + b = 0
  · have := hr.1 (by rw [h0, Int.zero_mul])
    rw [this, h0]
    have : (decide (a < 0) && decide (b < 0)) = false := by
      rcases Int.lt_or_le a 0 with h3 | h3
      · have : ¬ b < 0 := by omega
        simp [this]
      · have : ¬ a < 0 := by omega
        simp [this]
    rw [this]; exact hf_zero
  · refine hf_of_right h (hr.2 ?_)
    intro h3
    rcases Int.mul_eq_zero.mp h3 with h4 | h4
    · exact h0 h4
    · have := p1073; omega
theorem hf_sub {a b : Int} (ha : Fit a) (hb : Fit b) (h : Fit (a - b)) : sub (hf a) (hf b) = hf (a - b) := by
  obtain ⟨m, e, h1, _⟩ := hf_dec ha
  obtain ⟨k, f, h2, _⟩ := hf_dec hb
  have hr := sub_right h1 h2
  rw [hf_val ha, hf_val hb, ← Int.sub_mul] at hr
  by_cases h0 : a - b = 0
  · have := hr.1 (by rw [h0, Int.zero_mul])
    rw [this, h0]
    have e : a = b := by omega
    subst e
    have : (decide (a < 0) && !decide (a < 0)) = false := by simp
    rw [this]; exact hf_zero
  · refine hf_of_right h (hr.2 ?_)
    intro h3
    rcases Int.mul_eq_zero.mp h3 with h4 | h4
    · exact h0 h4
    · have := p1073; omega
theorem hf_ofInt {k : Int} (h : Fit (2 * k)) : ofInt k = hf (2 * k) := by
  have hr := ofInt_right k
  have e : decide (k < 0) = decide (2 * k < 0) := by apply decide_eq_decide.mpr; omega
  rw [e] at hr
  refine right_exact hr (by decide) (mag_lt h.nat (by decide)) ?_
  rw [V_mag h.nat (by decide), Nat.one_mul, Int.natAbs_mul]
  have : (2 : Nat) ^ 1074 = 2 * 2 ^ 1073 := by rw [Nat.pow_succ 2 1073, Nat.mul_comm]
  rw [this]
  show _ = 2 * k.natAbs * 2 ^ 1073
  generalize (2 : Nat) ^ 1073 = Z
  rw [← Nat.mul_assoc, Nat.mul_comm k.natAbs 2]
theorem cmp_scale (a b : Int) : compare (a * 2 ^ 1073) (b * 2 ^ 1073) = compare a b := by
  have hK := p1073
  generalize (2 : Int) ^ 1073 = K at *
  rcases Int.lt_trichotomy a b with h | h | h
  · rw [Int.compare_eq_lt.mpr h, Int.compare_eq_lt.mpr (Int.mul_lt_mul_of_pos_right h hK)]
  · subst h; simp
  · rw [Int.compare_eq_gt.mpr h, Int.compare_eq_gt.mpr (Int.mul_lt_mul_of_pos_right h hK)]
theorem hf_cmp {a b : Int} (ha : Fit a) (hb : Fit b) : cmp (hf a) (hf b) = some (compare a b) := by
  obtain ⟨m, e, h1, _⟩ := hf_dec ha
  obtain ⟨k, f, h2, _⟩ := hf_dec hb
  rw [cmp_right h1 h2, hf_val ha, hf_val hb, cmp_scale]
theorem hf_cmpInt {a i : Int} (ha : Fit a) : cmpInt (hf a) i = some (compare a (2 * i)) := by
  obtain ⟨m, e, h1, _⟩ := hf_dec ha
  rw [cmpInt_right h1, hf_val ha]
  have : i * 2 ^ 1074 = 2 * i * 2 ^ 1073 := by
    rw [Int.pow_succ 2 1073]
    generalize (2 : Int) ^ 1073 = Z
    rw [Int.mul_comm 2 i, Int.mul_assoc i 2 Z, Int.mul_comm 2 Z]
  rw [this, cmp_scale]
theorem hf_isZero {a : Int} (ha : Fit a) : isZero (hf a) = decide (a = 0) := by
  obtain ⟨m, e, h1, h2⟩ := hf_dec ha
  have hpos : 0 < 2 ^ 1073 := Nat.two_pow_pos _
  have hpos2 : 0 < 2 ^ (e + 1074).toNat := Nat.two_pow_pos _
  unfold isZero
  rw [h1]
  cases m with
  | zero =>
    have : a = 0 := by
      rw [Nat.zero_mul] at h2
      rcases Nat.mul_eq_zero.mp h2.symm with h3 | h3
      · omega
      · omega
    simp [this]
  | succ m =>
    have : a ≠ 0 := by
      intro h3
      subst h3
      rw [Int.natAbs_zero, Nat.zero_mul] at h2
      rcases Nat.mul_eq_zero.mp h2 with h4 | h4 <;> omega
    simp [this]
theorem hf_fin {a : Int} (ha : Fit a) : isFinite (hf a) = true ∧ isNaN (hf a) = false ∧ isInf (hf a) = false := by
  obtain ⟨m, e, h1, _⟩ := hf_dec ha
  unfold isFinite isNaN isInf
  rw [h1]; simp

/-- truncation of what is not below nought -/
theorem trunc_of {x : UInt64} {m : Nat} {e : Int} {q W D : Nat} (hx : decode x = .fin false m e) (hlo : q * 2 ^ 1074 ≤ m * 2 ^ (e + 1074).toNat) (hhi : m * 2 ^ (e + 1074).toNat < (q + 1) * 2 ^ 1074) :
    truncOf false m e = q := by
  have he := decode_ge hx
  unfold truncOf floorOf
  simp only [Bool.false_eq_true, if_false, sgn]
  split
  · rename_i h
    have e1 : (e + 1074).toNat = e.toNat + 1074 := by omega
    rw [e1, Nat.pow_add, ← Nat.mul_assoc] at hlo hhi
    have h1 := Nat.le_of_mul_le_mul_right hlo (Nat.two_pow_pos _)
    have h2 := Nat.lt_of_mul_lt_mul_right hhi
    have : m * 2 ^ e.toNat = q := by omega
    rw [← this]; simp
  · rename_i h
    have e1 : 1074 = (e + 1074).toNat + (-e).toNat := by omega
    have e2 : (2 : Nat) ^ 1074 = 2 ^ (-e).toNat * 2 ^ (e + 1074).toNat := by rw [← Nat.pow_add]; congr 1; omega
    rw [e2, ← Nat.mul_assoc] at hlo hhi
    have h1 := Nat.le_of_mul_le_mul_right hlo (Nat.two_pow_pos _)
    have h2 := Nat.lt_of_mul_lt_mul_right hhi
    have h3 : m / 2 ^ (-e).toNat = q := Nat.div_eq_of_lt_le h1 h2
    rw [← h3]
    have : ((2 : Int) ^ (-e).toNat) = ((2 ^ (-e).toNat : Nat) : Int) := by simp
    rw [this]
    show Int.fdiv (m : Int) _ = _
    rw [Int.fdiv_eq_ediv_of_nonneg _ (Int.natCast_nonneg _)]
    rfl
theorem p_split : (2 : Nat) ^ 1074 = 2 * 2 ^ 1073 := by rw [Nat.pow_succ 2 1073, Nat.mul_comm]
theorem hf_trunc {n : Int} (h : Fit n) (h0 : 0 ≤ n) : Flt.toInt truncOf (hf n) = n / 2 := by
  obtain ⟨m, e, h1, h2⟩ := hf_dec h
  rw [Flt.toInt_fin h1]
  have hn : decide (n < 0) = false := by simp; omega
  rw [hn] at h1 ⊢
  have h3 := trunc_of (q := n.natAbs / 2) (W := 0) (D := 0) h1 (by rw [h2, p_split, ← Nat.mul_assoc]; exact Nat.mul_le_mul_right _ (by omega))
    (by rw [h2, p_split, ← Nat.mul_assoc]; exact Nat.mul_lt_mul_of_pos_right (by omega) (Nat.two_pow_pos _))
  rw [h3]; omega

/-- the rounded quotient, cut down -/
theorem hf_div_trunc {a b : Int} (ha : Fit a) (hb : Fit b) (h0 : 0 ≤ a) (hb0 : 0 < b) (hb1 : b ≤ 400000) (ha1 : a < 8589934592) :
    Flt.toInt truncOf (div (hf a) (hf b)) = a / b := by
  obtain ⟨m, e, h1, h2⟩ := hf_dec ha
  obtain ⟨k, f, h3, h4⟩ := hf_dec hb
  have hk : k ≠ 0 := by
    intro h
    subst h
    rw [Nat.zero_mul] at h4
    rcases Nat.mul_eq_zero.mp h4.symm with h5 | h5
    · omega
    · have := Nat.two_pow_pos 1073; omega
  have hr := div_right h1 h3 hk
  have n1 : decide (a < 0) = false := by simp; omega
  have n2 : decide (b < 0) = false := by simp; omega
  have n3 : (decide (a < 0) != decide (b < 0)) = false := by rw [n1, n2]; rfl
  rw [n3, val_natAbs h1, val_natAbs h3, h2, h4] at hr
  obtain ⟨A, rfl⟩ := Int.eq_ofNat_of_zero_le h0
  obtain ⟨B, rfl⟩ := Int.eq_ofNat_of_zero_le (Int.le_of_lt hb0)
  rw [Int.natAbs_natCast, Int.natAbs_natCast] at hr
  have hB : 0 < B := by omega
  have hB1 : B ≤ 400000 := by omega
  have hA1 : A < 8589934592 := by omega
  clear h1 h2 h3 h4 n1 n2 n3 hk m e k f
  have hdm := Nat.div_add_mod A B
  have hmod := Nat.mod_lt A hB
  have hqA : A / B ≤ A := Nat.div_le_self A B
  generalize hq : A / B = q at *
  generalize hrr : A % B = r at *
  -- the floats on both sides
  have hlo1 : q < 2 ^ 53 := by omega
  have hhi1 : (q + 1) * 2 ^ 19 - 1 < 2 ^ 53 := by omega
  have vlo := V_mag (k := 1074) hlo1 (by decide)
  have vhi := V_mag (k := 1055) hhi1 (by decide)
  have hD : 0 < B * 2 ^ 1073 := Nat.mul_pos hB (Nat.two_pow_pos _)
  have hsplit : (2 : Nat) ^ 1074 = 2 ^ 19 * 2 ^ 1055 := by rw [← Nat.pow_add]
  have hWlo : B * 2 ^ 1073 * V (mag q 1074) ≤ A * 2 ^ 1073 * 2 ^ 1074 := by
    rw [vlo]
    generalize (2 : Nat) ^ 1073 = Y
    generalize (2 : Nat) ^ 1074 = Z
    calc B * Y * (q * Z) = B * q * (Y * Z) := by ac_rfl
      _ ≤ A * (Y * Z) := Nat.mul_le_mul_right _ (by omega)
      _ = A * Y * Z := by ac_rfl
  have hWhi : A * 2 ^ 1073 * 2 ^ 1074 ≤ B * 2 ^ 1073 * V (mag ((q + 1) * 2 ^ 19 - 1) 1055) := by
    rw [vhi, hsplit]
    have h7 : A * 2 ^ 19 ≤ B * ((q + 1) * 2 ^ 19 - 1) := by
      have e1 : B * ((q + 1) * 2 ^ 19 - 1) = B * q * 2 ^ 19 + B * (2 ^ 19 - 1) := by
        have : (q + 1) * 2 ^ 19 - 1 = q * 2 ^ 19 + (2 ^ 19 - 1) := by omega
        rw [this, Nat.mul_add, Nat.mul_assoc]
      rw [e1, ← hdm]
      generalize B * q = z at *
      omega
    generalize (q + 1) * 2 ^ 19 - 1 = J at *
    generalize (2 : Nat) ^ 1073 = Y
    generalize (2 : Nat) ^ 1055 = Z
    generalize (2 : Nat) ^ 19 = X at *
    calc A * Y * (X * Z) = A * X * (Y * Z) := by ac_rfl
      _ ≤ B * J * (Y * Z) := Nat.mul_le_mul_right _ h7
      _ = B * Y * (J * Z) := by ac_rfl
  obtain ⟨u, hu, hlt, hge, hle⟩ := right_mono hr hD (mag_lt hhi1 (by decide)) hWlo hWhi
  rw [vlo] at hge
  rw [vhi] at hle
  obtain ⟨m, e, h1, h2⟩ := decode_pack false hlt
  rw [hu, Flt.toInt_fin h1]
  have h3 := trunc_of (q := q) (W := 0) (D := 0) h1 (by rw [h2]; exact hge) (by
    rw [h2]
    refine Nat.lt_of_le_of_lt hle ?_
    rw [hsplit, ← Nat.mul_assoc]
    exact Nat.mul_lt_mul_of_pos_right (by omega) (Nat.two_pow_pos _))
  rw [h3]
  show (q : Int) = ((A : Int) / (B : Int))
  rw [← hq]; rfl
theorem hf_div_fin {a b : Int} (ha : Fit a) (hb : Fit b) (h0 : 0 ≤ a) (hb0 : 0 < b) : ∃ m e, decode (div (hf a) (hf b)) = .fin false m e := by
  obtain ⟨m, e, h1, h2⟩ := hf_dec ha
  obtain ⟨k, f, h3, h4⟩ := hf_dec hb
  have hk : k ≠ 0 := by
    intro h
    subst h
    rw [Nat.zero_mul] at h4
    rcases Nat.mul_eq_zero.mp h4.symm with h5 | h5
    · omega
    · have := Nat.two_pow_pos 1073; omega
  have hr := div_right h1 h3 hk
  have n1 : decide (a < 0) = false := by simp; omega
  have n2 : decide (b < 0) = false := by simp; omega
  have n3 : (decide (a < 0) != decide (b < 0)) = false := by rw [n1, n2]; rfl
  rw [n3, val_natAbs h1, val_natAbs h3, h2, h4] at hr
  have hD : 0 < b.natAbs * 2 ^ 1073 := Nat.mul_pos (by omega) (Nat.two_pow_pos _)
  obtain ⟨u, hu, hlt, _, _⟩ := right_mono (lo := 0) (hi := mag a.natAbs 1074) hr hD (mag_lt ha.nat (by decide)) (by rw [V_zero]; simp) (by
    rw [V_mag ha.nat (by decide)]
    generalize (2 : Nat) ^ 1073 = Y
    generalize (2 : Nat) ^ 1074 = Z
    have : a.natAbs * Y * Z = 1 * (a.natAbs * Y * Z) := by rw [Nat.one_mul]
    rw [this]
    calc 1 * (a.natAbs * Y * Z) ≤ b.natAbs * (a.natAbs * Y * Z) := Nat.mul_le_mul_right _ (by omega)
      _ = b.natAbs * Y * (a.natAbs * Z) := by ac_rfl)
  rw [hu]
  obtain ⟨m, e, h5, _⟩ := decode_pack false hlt
  exact ⟨m, e, h5⟩

theorem mul_mod_right' (a b K : Nat) : (a * K) % (b * K) = a % b * K := Nat.mul_mod_mul_right K a b
theorem hf_fmod {a b : Int} (ha : Fit a) (hb : Fit b) (h0 : 0 ≤ a) (hb0 : 0 < b) : fmod (hf a) (hf b) = hf (a % b) := by
  obtain ⟨m, e, h1, h2⟩ := hf_dec ha
  obtain ⟨k, f, h3, h4⟩ := hf_dec hb
  have he := decode_ge h1
  have hf' := decode_ge h3
  have hk : k ≠ 0 := by
    intro h
    subst h
    rw [Nat.zero_mul] at h4
    rcases Nat.mul_eq_zero.mp h4.symm with h5 | h5
    · omega
    · have := Nat.two_pow_pos 1073; omega
  have n1 : decide (a < 0) = false := by simp; omega
  obtain ⟨A, rfl⟩ := Int.eq_ofNat_of_zero_le h0
  obtain ⟨B, rfl⟩ := Int.eq_ofNat_of_zero_le (Int.le_of_lt hb0)
  rw [Int.natAbs_natCast] at h2 h4
  have hB : 0 < B := by omega
  have hABlt : A % B < B := Nat.mod_lt A hB
  have hfm : fmod (hf A) (hf B) = ofBin false (m * 2 ^ (e - min e f).toNat % (k * 2 ^ (f - min e f).toNat)) (min e f) := by
    unfold fmod
    rw [h1, h3, n1]
    simp only
    rw [if_neg (by simpa using hk)]
    rfl
  have hfitAB : Fit ((A : Int) % (B : Int)) := by
    unfold Fit at *
    have h7 : ((A : Int) % (B : Int)) = ((A % B : Nat) : Int) := rfl
    rw [h7]
    omega
  have hval : (m * 2 ^ (e - min e f).toNat % (k * 2 ^ (f - min e f).toNat)) * 2 ^ (min e f + 1074).toNat = A % B * 2 ^ 1073 := by
    rw [← mul_mod_right', ← mul_mod_right', ← h2, ← h4, Nat.mul_assoc, Nat.mul_assoc, ← Nat.pow_add, ← Nat.pow_add]
    have e1 : (e - min e f).toNat + (min e f + 1074).toNat = (e + 1074).toNat := by omega
    have e2 : (f - min e f).toNat + (min e f + 1074).toNat = (f + 1074).toNat := by omega
    rw [e1, e2]
  rw [hfm]
  generalize m * 2 ^ (e - min e f).toNat % (k * 2 ^ (f - min e f).toNat) = s at *
  have hr : Right (ofBin false s (min e f)) false (A % B * 2 ^ 1073) 1 := by
    unfold ofBin
    refine ofFrac_right (shift_pos _ _ _ (by decide)) ?_ (by decide)
    have := shift_one s (min e f) 1074 (by omega)
    rw [← hval, Nat.mul_one]
    exact this
  have := right_exact hr (by decide) (mag_lt hfitAB.nat (k := 1073) (by decide)) (by
    rw [V_mag hfitAB.nat (by decide), Nat.one_mul]; rfl)
  rw [this]
  unfold hf
  have n4 : decide ((A : Int) % (B : Int) < 0) = false := by
    have h7 : ((A : Int) % (B : Int)) = ((A % B : Nat) : Int) := rfl
    rw [h7, decide_eq_false_iff_not]; omega
  rw [n4]
theorem hf_mod {a b : Int} (ha : Fit a) (hb : Fit b) (h0 : 0 ≤ a) (hb0 : 0 < b) : (divmod (hf a) (hf b)).2 = hf (a % b) := by
  have hm := hf_fmod ha hb h0 hb0
  have hr0 := Int.emod_nonneg a (show b ≠ 0 by omega)
  have hr1 := Int.emod_lt_of_pos a hb0
  have hfit : Fit (a % b) := by unfold Fit at *; omega
  have hz := hf_isZero hfit
  unfold divmod
  simp only [hm]
  by_cases hzero : a % b = 0
  · rw [hz]
    simp only [hzero, decide_true, if_true]
    obtain ⟨k, f, h3, h4⟩ := hf_dec hb
    have hn : isNaN (zero false) = false := by decide +kernel
    unfold copysign
    rw [hn]
    have hs : signBit (hf b) = false := by
      unfold signBit hf
      have n2 : decide (b < 0) = false := by simp; omega
      rw [n2]
      have hml := mag_lt hb.nat (k := 1073) (by decide)
      have hi : infMag = 2047 * 2 ^ 52 := rfl
      rw [pack_toNat false (by omega)]
      have : (0 + mag b.natAbs 1073) / 2 ^ 63 = 0 := Nat.div_eq_of_lt (by omega)
      simp only [Bool.false_eq_true, if_false, this]
      rfl
    rw [hs]
    decide +kernel
  · rw [hz]
    simp only [hzero, decide_false, Bool.false_eq_true, if_false]
    have l1 : lt (hf b) (zero false) = false := by
      unfold lt
      rw [hf_zero, hf_cmp hb (by unfold Fit; omega)]
      rw [show compare b 0 = .gt from Int.compare_eq_gt.mpr hb0]
      rfl
    have l2 : lt (hf (a % b)) (zero false) = false := by
      unfold lt
      rw [hf_zero, hf_cmp hfit (by unfold Fit; omega)]
      have : compare (a % b) 0 = .gt := Int.compare_eq_gt.mpr (by omega)
      rw [this]; rfl
    rw [l1, l2]
    rfl
theorem hf_mul {a n : Int} (ha : Fit a) (hn : Fit (2 * n)) (hp : Fit (a * n)) (h0 : 0 ≤ a) (hn0 : 0 < n) : mul (hf a) (hf (2 * n)) = hf (a * n) := by
  obtain ⟨m, e, h1, _⟩ := hf_dec ha
  obtain ⟨k, f, h2, _⟩ := hf_dec hn
  have hr := mul_right h1 h2
  have n1 : decide (a < 0) = false := by simp; omega
  have n2 : decide (2 * n < 0) = false := by simp; omega
  have n3 : (decide (a < 0) != decide (2 * n < 0)) = false := by rw [n1, n2]; rfl
  have hpn : 0 ≤ a * n := Int.mul_nonneg h0 (by omega)
  have n4 : decide (a * n < 0) = false := by simp; omega
  rw [n3, hf_val ha, hf_val hn] at hr
  have e2 := right_exact hr (Nat.two_pow_pos _) (mag_lt hp.nat (k := 1073) (by decide)) (by
    rw [V_mag hp.nat (by decide), Int.natAbs_mul, Int.natAbs_mul, Int.natAbs_mul, Int.natAbs_mul]
    have : (2 : Nat) ^ 1074 = 2 * 2 ^ 1073 := p_split
    rw [this]
    have h2p : ((2 : Int) ^ 1073).natAbs = 2 ^ 1073 := rfl
    rw [h2p]
    generalize (2 : Nat) ^ 1073 = Z
    show a.natAbs * Z * (2 * n.natAbs * Z) = 2 * Z * (a.natAbs * n.natAbs * Z)
    ac_rfl)
  rw [e2]
  unfold hf
  rw [n4]
theorem lit_half : (0x3fe0000000000000 : UInt64) = hf 1 := by decide +kernel
theorem lit_epoch : (0x4121d4b500000000 : UInt64) = hf 1168565 := by decide +kernel
end AkHaab

-- 2. the head, once
namespace AkHaab
open PySem PySem.W PyProof.Rows
open_top hd for PySem.Challenge.rw_ak5013_01
-- the head leaves the lines for tops switched on: off again
theorem tops_off : True := by
  w_top off
  exact True.intro
end AkHaab

-- 3. rules of the walk for such doubles
open PySem PySem.W PyProof.Rows
namespace AkHaab
open PySem PySem.Float64 PySem.W PyProof.Rows PySem.AutoFloatOps

/-- the double of a whole number over a whole number -/
@[irreducible] def dv (a b : Int) : UInt64 := div (hf a) (hf b)
theorem dv_def (a b : Int) : dv a b = div (hf a) (hf b) := by unfold dv; rfl

section
variable {prog : Program} {w : World} {A : Around} {E : Value → Shared → Prop} {s : Shared} {a b n : Int} {x y : UInt64} {t u : Tok} {Q : Value → Shared → Prop}

theorem fit_ofInt {n : Int} (h : Fit (2 * n)) : ofInt n = hf (2 * n) ∧ ¬ isInf (ofInt n) = true := by
  have e := hf_ofInt h
  refine ⟨e, ?_⟩
  rw [e, (hf_fin h).2.2]; simp

theorem ak_add_fi (hx : x = hf a) (ha : Fit a) (hn : Fit (2 * n)) (hs : Fit (a + 2 * n)) (h : Q (.float (hf (a + 2 * n)) s.toks) { s with toks := s.toks + 1 }) :
    wpAny (model prog w) A (binaryOp .Add (.float x t) (.int n u)) Q E s := by
  obtain ⟨e, hi⟩ := fit_ofInt hn
  refine AutoFloatOps.add_fi_1 hi ?_
  show Q (.float (add x (ofInt n)) s.toks) _
  rw [hx, e, hf_add ha hn hs]; exact h
theorem ak_iadd_fi (hx : x = hf a) (ha : Fit a) (hn : Fit (2 * n)) (hs : Fit (a + 2 * n)) (h : Q (.float (hf (a + 2 * n)) s.toks) { s with toks := s.toks + 1 }) :
    wpAny (model prog w) A (inplaceOp .Add (.float x t) (.int n u)) Q E s := by
  obtain ⟨e, hi⟩ := fit_ofInt hn
  refine Flt.iadd_fi_1 hi ?_
  show Q (.float (add x (ofInt n)) s.toks) _
  rw [hx, e, hf_add ha hn hs]; exact h
theorem ak_add_if (hx : x = hf a) (ha : Fit a) (hn : Fit (2 * n)) (hs : Fit (2 * n + a)) (h : Q (.float (hf (2 * n + a)) s.toks) { s with toks := s.toks + 1 }) :
    wpAny (model prog w) A (binaryOp .Add (.int n u) (.float x t)) Q E s := by
  obtain ⟨e, hi⟩ := fit_ofInt hn
  refine AutoFloatOps.add_if_1 hi ?_
  show Q (.float (add (ofInt n) x) s.toks) _
  rw [hx, e, hf_add hn ha hs]; exact h
theorem ak_sub_ff (hx : x = hf a) (hy : y = hf b) (ha : Fit a) (hb : Fit b) (hs : Fit (a - b)) (h : Q (.float (hf (a - b)) s.toks) { s with toks := s.toks + 1 }) :
    wpAny (model prog w) A (binaryOp .Sub (.float x t) (.float y u)) Q E s := by
  refine sub_float ?_
  rw [hx, hy, hf_sub ha hb hs]; exact h
theorem ak_mod_fi (hx : x = hf a) (ha : Fit a) (hn : Fit (2 * n)) (h0 : 0 ≤ a) (hn0 : 0 < n) (h : Q (.float (hf (a % (2 * n))) s.toks) { s with toks := s.toks + 1 }) :
    wpAny (model prog w) A (binaryOp .Mod (.float x t) (.int n u)) Q E s := by
  obtain ⟨e, hi⟩ := fit_ofInt hn
  have hz : ¬ isZero (ofInt n) = true := by
    rw [e, hf_isZero hn]; simp; omega
  refine AutoFloatOps.mod_fi_2 hi hz ?_
  show Q (.float (divmod x (ofInt n)).2 s.toks) _
  rw [hx, e, hf_mod ha hn h0 (by omega)]; exact h
theorem ak_div_fi (hx : x = hf a) (hn : Fit (2 * n)) (hn0 : 0 < n) (h : Q (.float (dv a (2 * n)) s.toks) { s with toks := s.toks + 1 }) :
    wpAny (model prog w) A (binaryOp .Div (.float x t) (.int n u)) Q E s := by
  obtain ⟨e, hi⟩ := fit_ofInt hn
  have hz : ¬ isZero (ofInt n) = true := by
    rw [e, hf_isZero hn]; simp; omega
  refine AutoFloatOps.truediv_fi_2 hi hz ?_
  show Q (.float (div x (ofInt n)) s.toks) _
  rw [hx, e, ← dv_def]; exact h
theorem trunc_fin {m : Nat} {e : Int} {sg : Bool} (hd : decode x = .fin sg m e) (h : Q (.int (Flt.toInt truncOf x) s.toks) { s with toks := s.toks + 1 }) :
    wpAny (model prog w) A (call (.builtin "math.trunc") [.float x t]) Q E s := by
  refine Flt.trunc_via ?_
  rw [Flt.toInt_fin hd] at h
  exact call_gives F.slot_float_trunc (AutoFloatOps.typeIs_float s x t) F.entry_float_trunc (F.args_float_trunc_1 _) (Flt.gives_trunc t hd) h
theorem ak_trunc (hx : x = hf a) (ha : Fit a) (h0 : 0 ≤ a) (h : Q (.int (a / 2) s.toks) { s with toks := s.toks + 1 }) :
    wpAny (model prog w) A (call (.builtin "math.trunc") [.float x t]) Q E s := by
  obtain ⟨m, e, hd, _⟩ := hf_dec ha
  subst hx
  refine trunc_fin hd ?_
  rw [hf_trunc ha h0]; exact h
theorem ak_trunc_dv (ha : Fit a) (hb : Fit b) (h0 : 0 ≤ a) (hb0 : 0 < b) (hb1 : b ≤ 400000) (ha1 : a < 8589934592) (h : Q (.int (a / b) s.toks) { s with toks := s.toks + 1 }) :
    wpAny (model prog w) A (call (.builtin "math.trunc") [.float (dv a b) t]) Q E s := by
  rw [dv_def]
  obtain ⟨m, e, hd⟩ := hf_div_fin ha hb h0 hb0
  refine trunc_fin hd ?_
  rw [hf_div_trunc ha hb h0 hb0 hb1 ha1]; exact h
theorem ak_int (hx : x = hf a) (ha : Fit a) (h0 : 0 ≤ a) (h : Q (.int (a / 2) s.toks) { s with toks := s.toks + 1 }) :
    wpAny (model prog w) A (call (.type "int") [.float x t]) Q E s := by
  obtain ⟨m, e, hd, _⟩ := hf_dec ha
  subst hx
  refine call_int_float hd ?_
  rw [← Flt.toInt_fin (f := truncOf) hd, hf_trunc ha h0]; exact h
theorem beq_lt (p q : Int) : (some (compare p q) == some Ordering.lt) = decide (p < q) := by
  rcases Int.lt_trichotomy p q with h | h | h
  · rw [Int.compare_eq_lt.mpr h, decide_eq_true h]; rfl
  · subst h
    rw [Int.compare_eq_eq.mpr rfl, decide_eq_false (by omega)]; rfl
  · rw [Int.compare_eq_gt.mpr h, decide_eq_false (by omega)]; rfl
theorem bne_eq (p q : Int) : (some (compare p q) != some Ordering.eq) = (p != q) := by
  rcases Int.lt_trichotomy p q with h | h | h
  · have e : (p != q) = true := by rw [bne_iff_ne]; omega
    rw [Int.compare_eq_lt.mpr h, e]; rfl
  · subst h
    have e : (p != p) = false := by simp
    rw [Int.compare_eq_eq.mpr rfl, e]; rfl
  · have e : (p != q) = true := by rw [bne_iff_ne]; omega
    rw [Int.compare_eq_gt.mpr h, e]; rfl
theorem ak_lt_fi (hx : x = hf a) (ha : Fit a) (h : Q (.bool (decide (a < 2 * n))) s) : wpAny (model prog w) A (compareOp .Lt (.float x t) (.int n u)) Q E s := by
  refine lt_fi ?_
  rw [hx, hf_cmpInt ha, beq_lt]; exact h
theorem ak_lt_ff (hx : x = hf a) (hy : y = hf b) (ha : Fit a) (hb : Fit b) (h : Q (.bool (decide (a < b))) s) : wpAny (model prog w) A (compareOp .Lt (.float x t) (.float y u)) Q E s := by
  refine AutoFloatOps.lt_0 ?_
  show Q (.bool (cmp x y == some .lt)) s
  rw [hx, hy, hf_cmp ha hb, beq_lt]; exact h
theorem ak_ne_ff (hx : x = hf a) (hy : y = hf b) (ha : Fit a) (hb : Fit b) (h : Q (.bool (a != b)) s) : wpAny (model prog w) A (compareOp .NotEq (.float x t) (.float y u)) Q E s := by
  refine AutoFloatOps.ne_0 ?_
  show Q (.bool (cmp x y != some .eq)) s
  rw [hx, hy, hf_cmp ha hb, bne_eq]; exact h
end
end AkHaab

-- 4. contracts of defs
namespace AkHaab
open PySem PySem.Float64 PySem.W PyProof.Rows PySem.Spec PySem.Calls

/-- what a call of a def of the text gives back -/
def AkTells (w : World) (loose : List Str) (mean : ExcName → Option Value) (mg mb : Str → Option Value) (fuel : Nat) (f : Addr) (vs : List Value) (Post : Value → List (Addr × Obj) → Prop) : Prop :=
  ∀ (dp un : Nat) (gd : Option (List Code)) (cn : Str) (cs : Scope) (a : Addr) (ccd : Value) (cl : List (Str × Addr)) (outer : List Env) (A₀ : Around) (base h₀ : Heap) (L : Addr) (m : Str → Option Value) (news : List (Addr × Obj)) (s : Shared) (Q E : Value → Shared → Prop),
    Below A₀ base outer h₀ → Fr h₀ L s.heap m → (hd.heap_39 w.params).In h₀ → News h₀ L s.heap news → Top hd.view_39 loose mean mg mb h₀ → cs.kind = .function → dp + fuel < recursionLimit → un + 8 * fuel < cLine →
    (∀ r tl h' tk', Fr h₀ L h' m → News h₀ L h' (tl ++ news) → Post r tl → Q r { s with heap := h', toks := tk' }) →
    wpAny (model PySem.Challenge.rw_ak5013_01.row.prog w) (ktrTop dp un gd cn cs L a ccd cl outer) (call (.ref f) vs) Q E s

section
variable {w : World} {loose : List Str} {mean : ExcName → Option Value} {mg mb : Str → Option Value} {fuel : Nat} {f : Addr} {vs : List Value} {Post : Value → List (Addr × Obj) → Prop}
theorem ak_use {dp un : Nat} {gd : Option (List Code)} {cn : Str} {cs : Scope} {a : Addr} {ccd : Value} {cl : List (Str × Addr)} {outer : List Env} {A₀ : Around} {base h₀ : Heap} {L : Addr} {m : Str → Option Value} {news : List (Addr × Obj)} {s : Shared} {Q E : Value → Shared → Prop}
    (C : AkTells w loose mean mg mb fuel f vs Post) (B : Below A₀ base outer h₀) (F : Fr h₀ L s.heap m) (X : (hd.heap_39 w.params).In h₀) (N : News h₀ L s.heap news) (T : Top hd.view_39 loose mean mg mb h₀) (hk : cs.kind = .function) (hd : dp + fuel < recursionLimit) (hu : un + 8 * fuel < cLine)
    (ret : ∀ r tl h' tk', Fr h₀ L h' m → News h₀ L h' (tl ++ news) → Post r tl → Q r { s with heap := h', toks := tk' }) :
    wpAny (model PySem.Challenge.rw_ak5013_01.row.prog w) (ktrTop dp un gd cn cs L a ccd cl outer) (call (.ref f) vs) Q E s := C _ _ _ _ _ _ _ _ _ _ _ _ _ _ _ _ _ _ B F X N T hk hd hu ret
/-- a tuple of its own -/
def TupOf (P : List Value → Prop) (r : Value) (tl : List (Addr × Obj)) : Prop := ∃ D vs, r = .ref D ∧ tl = [(D, { cls := .type "tuple", data := .seq (List.toArray vs) })] ∧ P vs
/-- a value that stands alone -/
def Val1 (P : Value → Prop) (r : Value) (tl : List (Addr × Obj)) : Prop := tl = [] ∧ P r
end

abbrev haabL : List Str := [Str.ofString "Pop", Str.ofString "Wo'", Str.ofString "Zip", Str.ofString "Sotz'", Str.ofString "Sek", Str.ofString "Xul", Str.ofString "Yaxk'in'", Str.ofString "Mol", Str.ofString "Ch'en", Str.ofString "Yax", Str.ofString "Sak'", Str.ofString "Keh", Str.ofString "Mak", Str.ofString "K'ank'in", Str.ofString "Muwan'", Str.ofString "Pax", Str.ofString "K'ayab", Str.ofString "Kumk'u", Str.ofString "Wayeb'"]
abbrev tzL : List Str := [Str.ofString "Imix'", Str.ofString "Ik'", Str.ofString "Ak'b'al", Str.ofString "K'an", Str.ofString "Chikchan", Str.ofString "Kimi", Str.ofString "Manik'", Str.ofString "Lamat", Str.ofString "Muluk", Str.ofString "Ok", Str.ofString "Chuwen", Str.ofString "Eb'", Str.ofString "B'en", Str.ofString "Ix", Str.ofString "Men", Str.ofString "K'ib'", Str.ofString "Kab'an", Str.ofString "Etz'nab'", Str.ofString "Kawak", Str.ofString "Ajaw"]
abbrev bearL : List Str := [Str.ofString "Ak'b'al", Str.ofString "Lamat", Str.ofString "B'en", Str.ofString "Etz'nab'"]
@[irreducible] def hName (i : Int) : Str := haabL.getD i.toNat Str.empty
@[irreducible] def tName (i : Int) : Str := tzL.getD i.toNat Str.empty
@[irreducible] def bName (i : Int) : Str := bearL.getD i.toNat Str.empty
theorem hName_def (i : Int) : haabL.getD i.toNat Str.empty = hName i := by unfold hName; rfl
theorem tName_def (i : Int) : tzL.getD i.toNat Str.empty = tName i := by unfold tName; rfl
theorem bName_def (i : Int) : bearL.getD i.toNat Str.empty = bName i := by unfold bName; rfl
theorem float_is {x y : Int} {t : Tok} (h : x = y) : ∃ tk, Value.float (hf x) t = .float (hf y) tk := ⟨t, by rw [h]⟩
theorem int_is {x y : Int} {t : Tok} (h : x = y) : ∃ tk, Value.int x t = .int y tk := ⟨t, by rw [h]⟩
theorem two_is {x y : Int} {a b : Str} {t u : Tok} (h : x = y) (h2 : a = b) : ∃ t' u', [Value.int x t, Value.str a u] = [.int y t', .str b u'] := ⟨t, u, by rw [h, h2]⟩
theorem five_is {a b c d e a' b' c' d' e' : Int} {t1 t2 t3 t4 t5 : Tok} (h1 : a = a') (h2 : b = b') (h3 : c = c') (h4 : d = d') (h5 : e = e') :
    ∃ u1 u2 u3 u4 u5, [Value.int a t1, .int b t2, .int c t3, .int d t4, .int e t5] = [.int a' u1, .int b' u2, .int c' u3, .int d' u4, .int e' u5] := ⟨t1, t2, t3, t4, t5, by rw [h1, h2, h3, h4, h5]⟩
theorem hName_of {i j : Int} (h : i = j) : haabL.getD i.toNat Str.empty = hName j := by rw [h, hName_def]
theorem tName_of {i j : Int} (h : i = j) : tzL.getD i.toNat Str.empty = tName j := by rw [h, tName_def]
section
variable {w : World} {loose : List Str} {mean : ExcName → Option Value} {mg mb : Str → Option Value} {fuel : Nat} {f : Addr} {vs : List Value} {dp un : Nat} {gd : Option (List Code)} {cn : Str} {cs : Scope} {a : Addr} {ccd : Value} {cl : List (Str × Addr)} {outer : List Env} {A₀ : Around} {base h₀ : Heap} {L : Addr} {m : Str → Option Value} {news : List (Addr × Obj)} {s : Shared} {Q E : Value → Shared → Prop}
theorem ak_useV {R : Tok → Value} (C : AkTells w loose mean mg mb fuel f vs (Val1 fun r => ∃ tk, r = R tk)) (B : Below A₀ base outer h₀) (F : Fr h₀ L s.heap m) (X : (hd.heap_39 w.params).In h₀) (N : News h₀ L s.heap news) (T : Top hd.view_39 loose mean mg mb h₀) (hk : cs.kind = .function) (hd : dp + fuel < recursionLimit) (hu : un + 8 * fuel < cLine)
    (ret : ∀ t h' tk', Fr h₀ L h' m → News h₀ L h' news → Q (R t) { s with heap := h', toks := tk' }) :
    wpAny (model PySem.Challenge.rw_ak5013_01.row.prog w) (ktrTop dp un gd cn cs L a ccd cl outer) (call (.ref f) vs) Q E s :=
  ak_use C B F X N T hk hd hu fun r tl h' tk' F' N' P => by
    obtain ⟨e1, t, e2⟩ := P
    subst e1; subst e2
    exact ret t h' tk' F' N'
theorem ak_use2 {R : Tok → Tok → List Value} (C : AkTells w loose mean mg mb fuel f vs (TupOf fun r => ∃ t u, r = R t u)) (B : Below A₀ base outer h₀) (F : Fr h₀ L s.heap m) (X : (hd.heap_39 w.params).In h₀) (N : News h₀ L s.heap news) (T : Top hd.view_39 loose mean mg mb h₀) (hk : cs.kind = .function) (hd : dp + fuel < recursionLimit) (hu : un + 8 * fuel < cLine)
    (ret : ∀ D t u h' tk', Fr h₀ L h' m → News h₀ L h' ((D, { cls := .type "tuple", data := .seq (List.toArray (R t u)) }) :: news) → Q (.ref D) { s with heap := h', toks := tk' }) :
    wpAny (model PySem.Challenge.rw_ak5013_01.row.prog w) (ktrTop dp un gd cn cs L a ccd cl outer) (call (.ref f) vs) Q E s :=
  ak_use C B F X N T hk hd hu fun r tl h' tk' F' N' P => by
    obtain ⟨D, ws, e1, e2, t, u, e3⟩ := P
    subst e1; subst e2; subst e3
    exact ret D t u h' tk' F' N'
theorem ak_use3 {R : Tok → Tok → Tok → List Value} (C : AkTells w loose mean mg mb fuel f vs (TupOf fun r => ∃ t u v, r = R t u v)) (B : Below A₀ base outer h₀) (F : Fr h₀ L s.heap m) (X : (hd.heap_39 w.params).In h₀) (N : News h₀ L s.heap news) (T : Top hd.view_39 loose mean mg mb h₀) (hk : cs.kind = .function) (hd : dp + fuel < recursionLimit) (hu : un + 8 * fuel < cLine)
    (ret : ∀ D t u v h' tk', Fr h₀ L h' m → News h₀ L h' ((D, { cls := .type "tuple", data := .seq (List.toArray (R t u v)) }) :: news) → Q (.ref D) { s with heap := h', toks := tk' }) :
    wpAny (model PySem.Challenge.rw_ak5013_01.row.prog w) (ktrTop dp un gd cn cs L a ccd cl outer) (call (.ref f) vs) Q E s :=
  ak_use C B F X N T hk hd hu fun r tl h' tk' F' N' P => by
    obtain ⟨D, ws, e1, e2, t, u, v, e3⟩ := P
    subst e1; subst e2; subst e3
    exact ret D t u v h' tk' F' N'
theorem ak_use5 {R : Tok → Tok → Tok → Tok → Tok → List Value} (C : AkTells w loose mean mg mb fuel f vs (TupOf fun r => ∃ t u v x y, r = R t u v x y)) (B : Below A₀ base outer h₀) (F : Fr h₀ L s.heap m) (X : (hd.heap_39 w.params).In h₀) (N : News h₀ L s.heap news) (T : Top hd.view_39 loose mean mg mb h₀) (hk : cs.kind = .function) (hd : dp + fuel < recursionLimit) (hu : un + 8 * fuel < cLine)
    (ret : ∀ D t u v x y h' tk', Fr h₀ L h' m → News h₀ L h' ((D, { cls := .type "tuple", data := .seq (List.toArray (R t u v x y)) }) :: news) → Q (.ref D) { s with heap := h', toks := tk' }) :
    wpAny (model PySem.Challenge.rw_ak5013_01.row.prog w) (ktrTop dp un gd cn cs L a ccd cl outer) (call (.ref f) vs) Q E s :=
  ak_use C B F X N T hk hd hu fun r tl h' tk' F' N' P => by
    obtain ⟨D, ws, e1, e2, t, u, v, x, y, e3⟩ := P
    subst e1; subst e2; subst e3
    exact ret D t u v x y h' tk' F' N'
end
end AkHaab

-- 5. ints, names, lists
namespace AkHaab
open PySem PySem.Float64 PySem.W PyProof.Rows PySem.Spec PySem.Calls

theorem lit_greg : (0x413a445180000000 : UInt64) = hf 3442851 := by decide +kernel
theorem pop_is : hName 0 = Str.ofString "Pop" := by unfold hName; rfl
theorem names_apart : ∀ a b : Fin 19, a ≠ b → (haabL.getD a.1 Str.empty == haabL.getD b.1 Str.empty) = false := by decide +kernel
theorem hName_ne {i j : Int} (h0 : 0 ≤ i) (h1 : i < 19) (g0 : 0 ≤ j) (g1 : j < 19) (h : i ≠ j) : (hName i == hName j) = false := by
  rw [← hName_def, ← hName_def]
  have hi : i.toNat < 19 := by omega
  have hj : j.toNat < 19 := by omega
  exact names_apart ⟨i.toNat, hi⟩ ⟨j.toNat, hj⟩ (by intro e; have := Fin.mk.inj_iff.mp e; omega)
theorem bears_apart : ∀ a b : Fin 4, a ≠ b → (bearL.getD a.1 Str.empty == bearL.getD b.1 Str.empty) = false := by decide +kernel
theorem bear_of_tz : ∀ a : Fin 4, tzL.getD (5 * a.1 + 2) Str.empty = bearL.getD a.1 Str.empty := by decide +kernel
theorem tName_bear {i : Int} (h0 : 0 ≤ i) (h1 : i < 20) (h : i % 5 = 2) : tName i = bName (i / 5) := by
  rw [← tName_def, ← bName_def]
  have hi : (i / 5).toNat < 4 := by omega
  have := bear_of_tz ⟨(i / 5).toNat, hi⟩
  rw [← this]
  congr 1
  show i.toNat = 5 * (i / 5).toNat + 2
  omega
theorem bear_in : ∀ a : Fin 4, bearL.any (· == bearL.getD a.1 Str.empty) = true := by decide +kernel
theorem bName_in {i : Int} (h0 : 0 ≤ i) (h1 : i < 4) : bearL.any (· == bName i) = true := by
  rw [← bName_def]
  exact bear_in ⟨i.toNat, by omega⟩

theorem names_ok : ∀ a : Fin 19, PyData.strOk (haabL.getD a.1 Str.empty) = true := by decide +kernel
theorem bears_ok : ∀ a : Fin 4, PyData.strOk (bearL.getD a.1 Str.empty) = true := by decide +kernel
theorem hName_ok (i : Int) : PyData.strOk (hName i) = true := by
  rw [← hName_def]
  by_cases h : i.toNat < 19
  · exact names_ok ⟨i.toNat, h⟩
  · rw [List.getD_eq_getElem?_getD, List.getElem?_eq_none (Nat.le_of_not_lt h)]; decide +kernel
theorem bName_ok (i : Int) : PyData.strOk (bName i) = true := by
  rw [← bName_def]
  by_cases h : i.toNat < 4
  · exact bears_ok ⟨i.toNat, h⟩
  · rw [List.getD_eq_getElem?_getD, List.getElem?_eq_none (Nat.le_of_not_lt h)]; decide +kernel
section
variable {prog : Program} {w : World} {A : Around} {E : Value → Shared → Prop} {s : Shared} {l : Addr} {vs : List Value} {ws : List Str} {x y : Str} {i j a b : Int} {t u t' u' : Tok} {Q : Value → Shared → Prop} {h₀ : Heap} {L : Addr} {m : Str → Option Value} {news : List (Addr × Obj)} {K : Frag}
theorem ak_mod_ii (hb : 0 < b) (h : Q (.int (a % b) s.toks) { s with toks := s.toks + 1 }) : wpAny (model prog w) A (binaryOp .Mod (.int a t) (.int b u)) Q E s := by
  refine mod_int' (by omega) ?_
  rw [Int.fmod_eq_emod_of_nonneg _ (by omega)]; exact h
theorem ak_div_ii (hb : 0 < b) (ha : b < 1000000000) (h : Q (.int (a / b) s.toks) { s with toks := s.toks + 1 }) : wpAny (model prog w) A (binaryOp .FloorDiv (.int a t) (.int b u)) Q E s := by
  refine floordiv_int (by omega) ?_ (.inl (PyProof.noPylong_small (by omega)))
  rw [Int.fdiv_eq_ediv_of_nonneg _ (by omega)]; exact h
theorem ak_sub_fi {f : UInt64} {n : Int} (hx : f = hf a) (ha : Fit a) (hn : Fit (2 * n)) (hs : Fit (a - 2 * n)) (h : Q (.float (hf (a - 2 * n)) s.toks) { s with toks := s.toks + 1 }) :
    wpAny (model prog w) A (binaryOp .Sub (.float f t) (.int n u)) Q E s := by
  obtain ⟨e, hi⟩ := fit_ofInt hn
  refine AutoFloatOps.sub_fi_1 hi ?_
  show Q (.float (Float64.sub f (ofInt n)) s.toks) _
  rw [hx, e, hf_sub ha hn hs]; exact h
theorem floor_fin {f : UInt64} {m : Nat} {e : Int} {sg : Bool} (hd : decode f = .fin sg m e) (h : Q (.int (Flt.toInt floorOf f) s.toks) { s with toks := s.toks + 1 }) :
    wpAny (model prog w) A (call (.builtin "math.floor") [.float f t]) Q E s := by
  rw [Flt.toInt_fin hd] at h
  exact Flt.call_fn_gives Flt.kind_floor Flt.plain_floor Flt.entry_floor (Flt.args_floor _) (Flt.gives_mfloor t hd) h
theorem ak_floor {f : UInt64} (hx : f = hf a) (ha : Fit a) (h0 : 0 ≤ a) (h : Q (.int (a / 2) s.toks) { s with toks := s.toks + 1 }) :
    wpAny (model prog w) A (call (.builtin "math.floor") [.float f t]) Q E s := by
  obtain ⟨m, e, hd, _⟩ := hf_dec ha
  subst hx
  refine floor_fin hd ?_
  have h2 := hf_trunc ha h0
  have hn : decide (a < 0) = false := by simp; omega
  rw [hn] at hd
  rw [Flt.toInt_fin hd] at h2 ⊢
  have h3 : floorOf false m e = truncOf false m e := rfl
  rw [h3, h2]; exact h
theorem ak_floor_dv (ha : Fit a) (hb : Fit b) (h0 : 0 ≤ a) (hb0 : 0 < b) (hb1 : b ≤ 400000) (ha1 : a < 8589934592) (h : Q (.int (a / b) s.toks) { s with toks := s.toks + 1 }) :
    wpAny (model prog w) A (call (.builtin "math.floor") [.float (dv a b) t]) Q E s := by
  rw [dv_def]
  obtain ⟨m, e, hd⟩ := hf_div_fin ha hb h0 hb0
  refine floor_fin hd ?_
  have h2 := hf_div_trunc ha hb h0 hb0 hb1 ha1
  rw [Flt.toInt_fin hd] at h2 ⊢
  have h3 : floorOf false m e = truncOf false m e := rfl
  rw [h3, h2]; exact h
theorem ak_floor_cl {f : UInt64} {k : Int} (hd : (match decode f with | .fin sg m e => floorOf sg m e == k | _ => false) = true) (h : Q (.int k s.toks) { s with toks := s.toks + 1 }) :
    wpAny (model prog w) A (call (.builtin "math.floor") [.float f t]) Q E s := by
  split at hd
  · rename_i sg m e hd2
    refine floor_fin hd2 ?_
    rw [Flt.toInt_fin hd2, beq_iff_eq.mp hd]; exact h
  · cases hd
theorem ak_mul_fi {f : UInt64} {n : Int} (hx : f = hf a) (ha : Fit a) (hn : Fit (2 * n)) (hp : Fit (a * n)) (h0 : 0 ≤ a) (hn0 : 0 < n) (h : Q (.float (hf (a * n)) s.toks) { s with toks := s.toks + 1 }) :
    wpAny (model prog w) A (binaryOp .Mult (.float f t) (.int n u)) Q E s := by
  obtain ⟨e, hi⟩ := fit_ofInt hn
  refine AutoFloatOps.mul_fi_1 hi ?_
  show Q (.float (Float64.mul f (ofInt n)) s.toks) _
  rw [hx, e, hf_mul ha hn hp h0 hn0]; exact h
theorem ak_eq_str_ne (hx : x = hName i) (hy : y = hName j) (h0 : 0 ≤ i) (h1 : i < 19) (g0 : 0 ≤ j) (g1 : j < 19) (hne : i ≠ j) (h : Q (.bool false) s) : wpAny (model prog w) A (compareOp .Eq (.str x t) (.str y u)) Q E s := by
  refine eq_str ?_
  rw [hx, hy, hName_ne h0 h1 g0 g1 hne]; exact h
theorem ak_eq_pop (h0 : 0 ≤ i) (h1 : i < 19) (h : Q (.bool (decide (i = 0))) s) : wpAny (model prog w) A (compareOp .Eq (.str (hName i) t) (.str (Str.ofString "Pop") u)) Q E s := by
  refine eq_str ?_
  have e : (hName i == Str.ofString "Pop") = decide (i = 0) := by
    rw [← pop_is]
    by_cases hi : i = 0
    · subst hi; simp
    · rw [hName_ne h0 h1 (by omega) (by omega) hi, decide_eq_false hi]
  rw [e]; exact h
theorem ak_item_h {value slice : Expr} (hl : s.heap.IsList l vs.toArray) (hw : StrsAre vs haabL) (h0 : 0 ≤ i) (h1 : i < 19) (h : ∀ t', Q (.str (hName i) t') s)
    (hs : subscripted slice false (.ref l) (.int i u) = operate [.ref l, .int i u] (getItem (.ref l) (.int i u)) := by with_unfolding_all rfl) :
    wpAny (model prog w) A (subscriptTail value slice (.ref l) (.int i u)) Q E s := by
  have hn : ((haabL.length : Nat) : Int) = 19 := rfl
  exact KTb.item_list hl hw h0 (by omega) (by omega) (fun t' _ => by rw [hName_def]; exact h t') hs
theorem ak_item_b {value slice : Expr} (hl : s.heap.IsList l vs.toArray) (hw : StrsAre vs bearL) (h0 : 0 ≤ i) (h1 : i < 4) (h : ∀ t', Q (.str (bName i) t') s)
    (hs : subscripted slice false (.ref l) (.int i u) = operate [.ref l, .int i u] (getItem (.ref l) (.int i u)) := by with_unfolding_all rfl) :
    wpAny (model prog w) A (subscriptTail value slice (.ref l) (.int i u)) Q E s := by
  have hn : ((bearL.length : Nat) : Int) = 4 := rfl
  exact KTb.item_list hl hw h0 (by omega) (by omega) (fun t' _ => by rw [bName_def]; exact h t') hs
theorem isStr_at (k : Str) : ∀ {vs : List Value} {ws : List Str}, StrsAre vs ws → ∀ (m : Nat) (h : m < vs.length), isStrOf k vs[m] = (ws.getD m Str.empty == k)
  | _, _, .nil, m, h => absurd h (Nat.not_lt_zero m)
  | _, _, .cons n u r, 0, h => rfl
  | _, _, .cons n u r, m + 1, h => by
    have := isStr_at k r m (Nat.lt_of_succ_lt_succ h)
    simpa using this
theorem ak_index {k : Nat} (hl : s.heap.IsList l vs.toArray) (hw : StrsAre vs ws) (hk : k < ws.length) (hfit : ws.length ≤ 1000000) (hit : (ws.getD k Str.empty == x) = true) (hno : ∀ m, m < k → (ws.getD m Str.empty == x) = false)
    (h : Q (.int (k : Nat) s.toks) { s with toks := s.toks + 1 }) : wpAny (model prog w) A (call (.builtin "list.index") [.ref l, .str x t]) Q E s := by
  obtain ⟨⟨cls, dd, data, sl⟩, ho, hc, n, hd⟩ := id hl
  simp only at hc hd
  subst hc hd
  have hlen := hw.length
  refine call_meets PySem.F.slot_list_index ⟨_, ho, rfl⟩ PySem.F.entry_list_index (PySem.F.args_list_index_2 _ _)
    (PySem.SeqAt.list_indexAt l vs.toArray n dd sl (.str x t) (isStrOf x) k (by simpa [hlen] using hk) (by omega) ?_ ?_) ⟨ho, fun y hy => (eq_isStrOf x t hw y (by simpa using hy)).at _ _, h⟩
  · show isStrOf x vs[k] = true
    rw [isStr_at x hw k (by omega)]; exact hit
  · intro j hjs hlt
    have hj : j < vs.length := by simpa using hjs
    show isStrOf x vs[j] = false
    rw [isStr_at x hw j hj]; exact hno j hlt
theorem ak_index_h (hl : s.heap.IsList l vs.toArray) (hw : StrsAre vs haabL) (hx : x = hName i) (h0 : 0 ≤ i) (h1 : i < 19)
    (h : Q (.int i s.toks) { s with toks := s.toks + 1 }) : wpAny (model prog w) A (call (.builtin "list.index") [.ref l, .str x t]) Q E s := by
  have hn : haabL.length = 19 := rfl
  subst hx
  refine ak_index (k := i.toNat) hl hw (by omega) (by omega) (by rw [hName_def]; simp) (fun m hm => ?_) ?_
  · have := hName_ne (i := (m : Int)) (j := i) (by omega) (by omega) h0 h1 (by omega)
    rw [← hName_def (m : Int)] at this
    exact this
  · rw [Int.toNat_of_nonneg h0]; exact h
theorem ak_index_b (hl : s.heap.IsList l vs.toArray) (hw : StrsAre vs bearL) (h0 : 0 ≤ i) (h1 : i < 4)
    (h : Q (.int i s.toks) { s with toks := s.toks + 1 }) : wpAny (model prog w) A (call (.builtin "list.index") [.ref l, .str (bName i) t]) Q E s := by
  have hn : bearL.length = 4 := rfl
  refine ak_index (k := i.toNat) hl hw (by omega) (by omega) (by rw [bName_def]; simp) (fun m hm => ?_) ?_
  · rw [← bName_def]
    exact bears_apart ⟨m, by omega⟩ ⟨i.toNat, by omega⟩ (by intro e; have := Fin.mk.inj_iff.mp e; omega)
  · rw [Int.toNat_of_nonneg h0]; exact h
theorem ak_notin_b (hl : s.heap.IsList l vs.toArray) (hw : StrsAre vs bearL) (h0 : 0 ≤ i) (h1 : i < 4) (h : Q (.bool false) s) :
    wpAny (model prog w) A (compareOp .NotIn (.str (bName i) t) (.ref l)) Q E s :=
  notin_list_strs hl hw (by rw [bName_in h0 h1]; exact h)
theorem ak_meth {name : Str} {id : String} {pl : Sem Bool} {Q : Value × List Value → Shared → Prop} {vs : List Value} {n : Nat} (slot : Slot "list" name id) (hty : typeOf (.builtin id) = pure (.type "method_descriptor"))
    (X : K.In h₀) (F : Fr h₀ L s.heap m) (ho : K.lookup l = some ⟨.type "list", none, .seq vs.toArray n, #[]⟩) (h : Q (.builtin id, [.ref l]) s) : wpAny (model prog w) A (getMethod (.ref l) name pl) Q E s :=
  getMethod_list_of slot hty (listIn X F ho) ⟨_, F.keep _ _ (X _ _ ho), rfl⟩ h
theorem ak_methN {name : Str} {id : String} {pl : Sem Bool} {Q : Value × List Value → Shared → Prop} {its : Array Value} {n : Nat} (slot : Slot "list" name id) (hty : typeOf (.builtin id) = pure (.type "method_descriptor"))
    (N : News h₀ L s.heap news) (hm : (l, { cls := .type "list", data := .seq its n }) ∈ news) (h : Q (.builtin id, [.ref l]) s) : wpAny (model prog w) A (getMethod (.ref l) name pl) Q E s :=
  getMethod_list_of slot hty (News.isList N hm) ⟨_, News.get N hm, rfl⟩ h

abbrev tupO (vs : List Value) : Obj := { cls := .type "tuple", data := .seq (List.toArray vs) }
theorem reads_pair {D : Addr} (N : News h₀ L s.heap news) (m1 : (D, tupO [.int a t, .str x u]) ∈ news) : Reads s.heap (.ref D) (.tuple [.int a, .str x]) [] :=
  reads_tuple_at (News.get N m1) rfl rfl (ReadsAll.cons (as := []) (bs := []) (Reads.int _ _) (ReadsAll.cons (as := []) (bs := []) (Reads.str _ _) ReadsAll.nil))
theorem pair_shaped (a : Int) {x : Str} (hx : PyData.strOk x = true) : SeqAt.shaped (.tuple [.int a, .str x]) = true := by simp [SeqAt.shaped, PyData.canLay0, PyData.canLayAll0, PyData.depth, PyData.depthAll, hx]
theorem five_shaped (c d e f g : Int) : SeqAt.shaped (.tuple [.int c, .int d, .int e, .int f, .int g]) = true := by simp [SeqAt.shaped, PyData.canLay0, PyData.canLayAll0, PyData.depth, PyData.depthAll]
theorem ak_ne_pair {D D' : Addr} (N : News h₀ L s.heap news) (m1 : (D, tupO [.int a t, .str x u]) ∈ news) (m2 : (D', tupO [.int b t', .str y u']) ∈ news) (hu : A.units + 64 < cLine) (ha : a = b) (hx : x = y) (hok : PyData.strOk x = true) (h : Q (.bool false) s) :
    wpAny (model prog w) A (compareOp .NotEq (.ref D) (.ref D')) Q E s := by
  subst ha; subst hx
  refine ne_dataH (reads_pair N m1) (reads_pair N m2) (pair_shaped _ hok) (pair_shaped _ hok) hu ?_
  have : PyData.eqv (.tuple [.int a, .str x]) (.tuple [.int a, .str x]) = true := by simp [PyData.eqv, PyData.eqvAll]
  rw [this]; exact h
theorem reads_five {D : Addr} {c d e f g : Int} {t1 t2 t3 t4 t5 : Tok} (N : News h₀ L s.heap news) (m1 : (D, tupO [.int c t1, .int d t2, .int e t3, .int f t4, .int g t5]) ∈ news) : Reads s.heap (.ref D) (.tuple [.int c, .int d, .int e, .int f, .int g]) [] :=
  reads_tuple_at (News.get N m1) rfl rfl (ReadsAll.cons (as := []) (bs := []) (Reads.int _ _) (ReadsAll.cons (as := []) (bs := []) (Reads.int _ _) (ReadsAll.cons (as := []) (bs := []) (Reads.int _ _) (ReadsAll.cons (as := []) (bs := []) (Reads.int _ _) (ReadsAll.cons (as := []) (bs := []) (Reads.int _ _) ReadsAll.nil)))))
theorem ak_eq_five {D D' : Addr} {c d e f g c' d' e' f' g' : Int} {t1 t2 t3 t4 t5 u1 u2 u3 u4 u5 : Tok} (N : News h₀ L s.heap news) (m1 : (D, tupO [.int c t1, .int d t2, .int e t3, .int f t4, .int g t5]) ∈ news) (m2 : (D', tupO [.int c' u1, .int d' u2, .int e' u3, .int f' u4, .int g' u5]) ∈ news)
    (hu : A.units + 64 < cLine) (hc : c = c' ∧ d = d' ∧ e = e' ∧ f = f' ∧ g = g') (h : Q (.bool true) s) :
    wpAny (model prog w) A (compareOp .Eq (.ref D) (.ref D')) Q E s := by
  obtain ⟨rfl, rfl, rfl, rfl, rfl⟩ := hc
  refine eq_dataH (reads_five N m1) (reads_five N m2) (five_shaped _ _ _ _ _) (five_shaped _ _ _ _ _) hu ?_
  have : PyData.eqv (.tuple [.int c, .int d, .int e, .int f, .int g]) (.tuple [.int c, .int d, .int e, .int f, .int g]) = true := by simp [PyData.eqv, PyData.eqvAll]
  rw [this]; exact h
end
end AkHaab

-- 6. str.format
namespace AkHaab
open PySem PySem.Float64 PySem.W PyProof.Rows PySem.Spec PySem.Calls
open PySem.Builtin PySem.Builtin.Str

theorem fm_args5 (a b c d e : Value) : argsOk "str.format" ⟨[a, b, c, d, e], []⟩ := by
  unfold argsOk; rw [signature?_of (id := "str.format") (n := ['t', 'a', 'm', 'r', 'o', 'f']) (o := ['r', 't', 's']) (by kernel_rfl) F.owner_str]; kernel_rfl
theorem fm_field {prog : Program} {w : World} {A : Around} {E : Value → Shared → Prop} {s : Shared} {id : String} {a : Array Value} {byName : PySem.Str → Sem Value} {c i : Nat} {v : Value} {num : Numbering} {Q : Value × Numbering → Shared → Prop}
    (hn : num = .unset ∨ num = .manual) (hk : fieldKey [c] = .index i) (hs : (c != 46 && c != 91) = true) (ha : a[i]? = some v)
    (h : Q (v, .manual) s) : wpAny (model prog w) A (fieldObject id (some a) byName [c] num) Q E s := by
  have e1 : ([c].span fun c => c != 46 && c != 91) = ([c], []) := by
    simp [List.span, List.span.loop, hs]
  rcases hn with rfl | rfl
  · unfold fieldObject
    simp only [e1, hk]
    refine wpAny_bind (wpAny_pure ?_)
    refine wpAny_bind (wpAny_pure ?_)
    simp only [ha, pure_bind]
    rw [KPc.range_list]
    exact wpAny_bind (wpAny_pure (wpAny_pure h))
  · unfold fieldObject
    simp only [e1, hk]
    refine wpAny_bind (wpAny_pure ?_)
    refine wpAny_bind (wpAny_pure ?_)
    simp only [ha, pure_bind]
    rw [KPc.range_list]
    exact wpAny_bind (wpAny_pure (wpAny_pure h))
theorem names_len : ∀ a : Fin 19, (haabL.getD a.1 Str.empty).length ≤ 100 := by decide +kernel
theorem tz_len : ∀ a : Fin 20, (tzL.getD a.1 Str.empty).length ≤ 100 := by decide +kernel
theorem hName_len (i : Int) : (hName i).length ≤ 100 := by
  rw [← hName_def]
  by_cases h : i.toNat < 19
  · exact names_len ⟨i.toNat, h⟩
  · rw [List.getD_eq_getElem?_getD, List.getElem?_eq_none (Nat.le_of_not_lt h)]; decide +kernel
theorem tName_len (i : Int) : (tName i).length ≤ 100 := by
  rw [← tName_def]
  by_cases h : i.toNat < 20
  · exact tz_len ⟨i.toNat, h⟩
  · rw [List.getD_eq_getElem?_getD, List.getElem?_eq_none (Nat.le_of_not_lt h)]; decide +kernel
theorem key0 : fieldKey [48] = .index 0 := by kernel_rfl
theorem key1 : fieldKey [49] = .index 1 := by kernel_rfl
theorem key2 : fieldKey [50] = .index 2 := by kernel_rfl
theorem key3 : fieldKey [51] = .index 3 := by kernel_rfl

local macro_rules | `(tactic| kfm_args) => `(tactic| exact fm_args5 _ _ _ _ _)
local macro_rules | `(tactic| kfm_len) => `(tactic| first | assumption | ((with_reducible refine' toString_length_le (k := 10) ?kfma ?kfmb ?kfmc); (case kfma => omega); (case kfmb => decide); (case kfmc => omega)))
local macro_rules | `(tactic| kfm_field) => `(tactic| (
  refine wpAny_bind (fm_field (by first | exact Or.inl rfl | exact Or.inr rfl) (by first | exact key0 | exact key1 | exact key2 | exact key3) (by rfl) (by rfl) ?_)
  refine wpAny_bind (wpAny_holding (wpAny_of_eq (a := _) rfl ?_))
  kpc_if
  refine wpAny_bind (wpAny_pure ?_)
  kfm_val
  refine wpAny_bind (wpAny_of_eq (a := some _) rfl ?_)
  refine wpAny_pure ?_
  refine KFm.after_field (by kpc_g) (by kpc_text) (by kpc_obj) (by kfm_len) (by kpc_obj) (by kfm_cat2) (by kfm_rest) ?_
  intro _ _))
theorem fm_lit : Str.ofString "{0} {1} {2} {3}" = Str.mk #[123, 48, 125, 32, 123, 49, 125, 32, 123, 50, 125, 32, 123, 51, 125] := by decide +kernel
section
variable {prog : Program} {w : World} {A : Around} {E : Value → Shared → Prop} {s : Shared} {a b : Int} {x y : Str} {t t1 t2 t3 t4 : Tok}
theorem fm_tree {Q : Fin → Shared → Prop} (ha : 0 ≤ a ∧ a < 1000) (hb : 0 ≤ b ∧ b < 1000) (hx : x.length ≤ 100) (hy : y.length ≤ 100)
    (h : ∀ t' k, Q (.done (.ret (.str (Str.ofString (toString a) ++ Str.ofString " " ++ x ++ Str.ofString " " ++ Str.ofString (toString b) ++ Str.ofString " " ++ y) t'))) { s with toks := k }) :
    wpAny (model prog w) A (Builtin.«str.format» ⟨[.str (Str.ofString "{0} {1} {2} {3}") t, .int a t1, .str x t2, .int b t3, .str y t4], []⟩) Q E s := by
  rw [fm_lit]
  unfold Builtin.«str.format»
  refine wpAny_bind (wpAny_of_eq (a := (_, _, _)) rfl ?_)
  refine wpAny_bind ?_
  unfold Builtin.Str.buildString
  refine wpAny_bind ?_
  rw [KPc.range_list]
  refine KFm.start ?_
  intro _ _
  k_dflt kfm_turns
end
end AkHaab

-- 7. a bound str.format called with a star
namespace AkHaab
open PySem PySem.Float64 PySem.W PyProof.Rows PySem.Spec PySem.Calls

abbrev bfmObj (f self : Value) : Obj := { cls := .type "builtin_function_or_method", data := .fields #[f, self] }
theorem check_fm (X : Str) (t : Tok) (a b c d : Value) : checkBoundCall "str.format" ⟨[.str X t, a, b, c, d], []⟩ = pure () := by first | kernel_rfl | rfl
theorem quiet_fm (args : Args) : (Code.builtin "str.format" args).quiet = true := Code.quiet_builtin _ (by decide +kernel)
section
variable {prog : Program} {w : World} {A : Around} {E : Value → Shared → Prop} {s : Shared} {p : Addr} {Q : Value → Shared → Prop} {a b : Int} {x y : Str} {t t1 t2 t3 t4 : Tok} {h₀ : Heap} {L : Addr} {news : List (Addr × Obj)} {m : Str → Option Value}
theorem bfm_format (ho : s.heap.get? p = some (bfmObj (.builtin "str.format") (.str (Str.ofString "{0} {1} {2} {3}") t)))
    (ha : 0 ≤ a ∧ a < 1000) (hb : 0 ≤ b ∧ b < 1000) (hx : x.length ≤ 100) (hy : y.length ≤ 100)
    (h : ∀ t' k, Q (.str (Str.ofString (toString a) ++ Str.ofString " " ++ x ++ Str.ofString " " ++ Str.ofString (toString b) ++ Str.ofString " " ++ y) t') { s with toks := k }) :
    wpAny (model prog w) A (call (.ref p) [.int a t1, .str x t2, .int b t3, .str y t4]) Q E s := by
  refine wpAny_call (codeAny_of_tree ?_)
  show wpAny _ A.in1 (callAny (.ref p) _) _ _ s
  simp only [callAny]
  refine wpAny_bind (wpAny_load ho ?_)
  simp only [show (Value.type "builtin_function_or_method" == Value.type "method" || Value.type "builtin_function_or_method" == Value.type "builtin_function_or_method" || Value.type "builtin_function_or_method" == Value.type "method-wrapper") = true by decide, if_true]
  refine KFB.if_so (by decide) ?_
  refine wpAny_bind (wpAny_of_eq (a := ()) (check_fm _ _ _ _ _ _) ?_)
  refine wpAny_bind (wpAny_pure (wpAny_pure ?_))
  exact ⟨quiet_fm _, codeAny_builtin F.entry_str_format_m (fm_tree ha hb hx hy h)⟩
end

theorem slot_md_get : Slot "method_descriptor" "__get__" "method_descriptor.__get__" :=
  .of (owner := "method_descriptor") (n := "__get__") (by rw [typeLookup_type, builtinLookup_eq_fast]; kernel_rfl) (by decide +kernel) (by decide +kernel) (by decide +kernel)
    (by first | exact .inl (by decide +kernel) | exact .inr (by decide +kernel)) (by rw [isSubtype_type]; kernel_rfl)
theorem no_md_set : typeLookup (.type "method_descriptor") "__set__" = pure none := by rw [typeLookup_type, builtinLookup_eq_fast]; kernel_rfl
theorem no_md_del : typeLookup (.type "method_descriptor") "__delete__" = pure none := by rw [typeLookup_type, builtinLookup_eq_fast]; kernel_rfl
theorem entry_md_get : entryFor table "method_descriptor.__get__" = some Builtin.«method_descriptor.__get__» := entryFor_of_tree (by kernel_rfl)
theorem args_md_get (a b c : Value) : argsOk "method_descriptor.__get__" ⟨[a, b, c], []⟩ := by unfold argsOk; kernel_rfl
theorem owner_fm : (".".intercalate ("str.format".cutAt '.').dropLast) = "str" := by
  have e0 : "str.format".cutAt '.' = ["str", "format"] := by first | rfl | decide +kernel
  rw [e0]; decide +kernel
theorem sub_str_fm : isSubtype (.type "str") (.type (".".intercalate ("str.format".cutAt '.').dropLast)) = pure true := by
  rw [owner_fm, isSubtype_type]; kernel_rfl
theorem told_fm : Manifest.toldItsClass.contains "str.format" = false := by decide +kernel

section
variable {prog : Program} {w : World} {A : Around} {E : Value → Shared → Prop} {h : Heap} {g : Array GenState} {d : Drawn} {t : Nat} {os : OsState} {x : Str} {u : Tok}
theorem fm_get {R : Result → Shared → Prop} (hq : R (.ok (.ret (.ref h.objs.size))) ⟨h.push (bfmObj (.builtin "str.format") (.str x u)), g, d, t, os⟩) :
    codeAny (model prog w) A (.call (.builtin "method_descriptor.__get__") ⟨[.builtin "str.format", .str x u, .type "str"], []⟩) R ⟨h, g, d, t, os⟩ := by
  have hT : (⟨h, g, d, t, os⟩ : Shared).TypeIs (.str x u) "str" := rfl
  have hT5 : (⟨h, g, d, t, os⟩ : Shared).TypeIs (.builtin "str.format") "method_descriptor" := F.type_str_format_m
  have f8 := sub_str_fm
  refine codeAny_call_builtin slot_md_get.plain entry_md_get (slot_md_get.check _ _ _ _ _ _ _ _ hT5 (args_md_get _ _ _) ?_)
  unfold Builtin.«method_descriptor.__get__»
  repeat (any_goals (first | assumption | wp_step))

theorem fm_entry {tk : Tok} {Q : Fin → Shared → Prop} (hq : Q (.done (.ret (.ref h.objs.size))) ⟨h.push (bfmObj (.builtin "str.format") (.str x u)), g, d, t, os⟩) :
    wpAny (model prog w) A (Builtin.«object.__getattribute__» ⟨[.str x u, .str "format" tk], []⟩) Q E ⟨h, g, d, t, os⟩ := by
  have hT : (⟨h, g, d, t, os⟩ : Shared).TypeIs (.str x u) "str" := rfl
  have hT5 : (⟨h, g, d, t, os⟩ : Shared).TypeIs (.builtin "str.format") "method_descriptor" := F.type_str_format_m
  have f4 := F.slot_str_format_m.lookup
  have f5 := F.type_str_format_m
  have f6 := slot_md_get.lookup
  have f7 := no_md_set
  have f8 := no_md_del
  repeat (any_goals (first | assumption | wp_step))
  refine fm_get ?_
  repeat (any_goals (first | assumption | wp_step))

theorem fm_call {tk : Tok} {R : Result → Shared → Prop} (hq : R (.ok (.ret (.ref h.objs.size))) ⟨h.push (bfmObj (.builtin "str.format") (.str x u)), g, d, t, os⟩) :
    codeAny (model prog w) A (.call (.builtin "object.__getattribute__") ⟨[.str x u, .str "format" tk], []⟩) R ⟨h, g, d, t, os⟩ :=
  codeAny_call_builtin F.slot_str_getattribute.plain F.entry_object_getattribute (F.slot_str_getattribute.check _ _ _ _ _ _ _ _ (show (⟨h, g, d, t, os⟩ : Shared).TypeIs (.str x u) "str" from rfl) (F.args_object_getattribute_2 _ _) (fm_entry hq))

theorem fm_attr {Q : Value → Shared → Prop} (hq : Q (.ref h.objs.size) ⟨h.push (bfmObj (.builtin "str.format") (.str x u)), g, d, t + 1, os⟩) : wpAny (model prog w) A (getAttr (.str x u) "format" true) Q E ⟨h, g, d, t, os⟩ := by
  have hT : (⟨h, g, d, t, os⟩ : Shared).TypeIs (.str x u) "str" := rfl
  have hT1 : (⟨h, g, d, t + 1, os⟩ : Shared).TypeIs (.str x u) "str" := rfl
  have f2 := F.slot_str_getattribute.lookup
  have f3 := F.slot_str_getattribute.bind (.str x u)
  unfold getAttr getAttrBy
  repeat (any_goals (first | assumption | wp_step))
  refine fm_call ?_
  repeat (any_goals (first | assumption | wp_step))
end

section
variable {prog : Program} {w : World} {A : Around} {E : Value → Shared → Prop} {s : Shared} {h₀ : Heap} {L : Addr} {m : Str → Option Value} {news : List (Addr × Obj)} {x : Str} {u : Tok}
theorem fm_attrN {Q : Value → Shared → Prop} (F : Fr h₀ L s.heap m) (N : News h₀ L s.heap news)
    (h : ∀ D h' tk', Fr h₀ L h' m → News h₀ L h' ((D, bfmObj (.builtin "str.format") (.str x u)) :: news) → Q (.ref D) { s with heap := h', toks := tk' }) :
    wpAny (model prog w) A (getAttr (.str x u) (Str.ofString "format") true) Q E s := by
  obtain ⟨hp, g, d, t, os⟩ := s
  exact fm_attr (h _ _ _ (F.push _) (News.push F N _))
theorem star_method {M : Model} {env : Env} {o : Expr} {name : Str} {apos pos : Pos} {args : List Expr} {Q : Value → Shared → Prop}
    (h : wpAny M A (eval o env) (fun ov s₁ => wpAny M A (getAttr ov name true) (fun f s₂ => wpAny M A (callWith pos f [] (backTo pos (starEach args env)) []) Q E s₂) E s₁) E s)
    (he : eval (.Call (.Attribute o name apos) args [] pos) env = (do
      let ov ← eval o env
      standAt apos.atName
      let (f, first) ← holding [ov] (do pure (← getAttr ov name true, []))
      callWith pos f first (backTo pos (starEach args env)) []) := by rfl) :
    wpAny M A (eval (.Call (.Attribute o name apos) args [] pos) env) Q E s := by
  rw [he]
  refine wpAny_bind (wpAny_mono h (fun ov s₁ h₁ => wpAny_bind (wpAny_standAt (wpAny_bind (wpAny_holding (wpAny_bind (wpAny_mono h₁ (fun fx s₂ h₂ => wpAny_pure ?_) fun _ _ x => x)))))) fun _ _ x => x)
  exact h₂
def AtB (D : Addr) (o : Obj) (h : Heap) : Prop := h.get? D = some o
theorem atB_of {D : Addr} {o : Obj} {h : Heap} (N : News h₀ L h news) (hm : (D, o) ∈ news) : AtB D o h := (N _ hm).1
theorem callWith_B {M : Model} {env : Env} {pos p : Pos} {e : Expr} {D : Addr} {f self : Value} {Q : Value → Shared → Prop} (_N : News h₀ L s.heap news) (_hm : (D, bfmObj f self) ∈ news)
    (h : wpAny M A (eval e env) (fun v s₁ => StarOf M A E v (fun vs s₂ => AtB D (bfmObj f self) s₂.heap ∧ wpAny M A (call (.ref D) ([] ++ vs)) Q E s₂) s₁) E s)
    (he : starEach [.Starred e p] env = [(true, eval e env)] := by rfl) :
    wpAny M A (callWith pos (.ref D) [] (backTo pos (starEach [.Starred e p] env)) []) Q E s := by
  rw [he]
  refine ks_call (P := fun h => AtB D (bfmObj f self) h) rfl (fun hh hP => ⟨.machine, .inr (.inl rfl), ?_⟩) (ks_lone h)
  intro A Q E s k q
  unfold keeperOf
  refine wpAny_bind (wpAny_load (k _ _ hP) ?_)
  exact wpAny_pure q
end
end AkHaab

-- contracts, part 1
namespace AkHaab
open PySem PySem.Float64 PySem.W PyProof.Rows PySem.Spec PySem.Calls
-- the walk's own lines for floats
local macro_rules | `(tactic| walk_at "ak fit") => `(tactic| (unfold Fit; omega))
local macro_rules | `(tactic| walk_at "ak int") => `(tactic| omega)
local macro_rules | `(tactic| walk_at "ak lit") => `(tactic| first | with_reducible rfl | exact lit_half | exact lit_epoch)
local macro_rules | `(tactic| walk_at "binaryOp Add float int") => `(tactic| (k_here; k_dflt (refine' ak_add_fi ?hx ?f1 ?f2 ?f3 ?_; (case hx => walk_at "ak lit"); (case f1 => walk_at "ak fit"); (case f2 => walk_at "ak fit"); (case f3 => walk_at "ak fit"); k_whole); try dsimp only))
local macro_rules | `(tactic| walk_at "inplaceOp Add float int") => `(tactic| (k_here; k_dflt (refine' ak_iadd_fi ?hx ?f1 ?f2 ?f3 ?_; (case hx => walk_at "ak lit"); (case f1 => walk_at "ak fit"); (case f2 => walk_at "ak fit"); (case f3 => walk_at "ak fit"); k_whole); try dsimp only))
local macro_rules | `(tactic| walk_at "binaryOp Add int float") => `(tactic| (k_here; k_dflt (refine' ak_add_if ?hx ?f1 ?f2 ?f3 ?_; (case hx => walk_at "ak lit"); (case f1 => walk_at "ak fit"); (case f2 => walk_at "ak fit"); (case f3 => walk_at "ak fit"); k_whole); try dsimp only))
local macro_rules | `(tactic| walk_at "binaryOp Sub float float") => `(tactic| (k_here; k_dflt (refine' ak_sub_ff ?hx ?hy ?f1 ?f2 ?f3 ?_; (case hx => walk_at "ak lit"); (case hy => walk_at "ak lit"); (case f1 => walk_at "ak fit"); (case f2 => walk_at "ak fit"); (case f3 => walk_at "ak fit"); k_whole); try dsimp only))
local macro_rules | `(tactic| walk_at "binaryOp Mod float int") => `(tactic| (k_here; k_dflt (refine' ak_mod_fi ?hx ?f1 ?f2 ?f3 ?f4 ?_; (case hx => walk_at "ak lit"); (case f1 => walk_at "ak fit"); (case f2 => walk_at "ak fit"); (case f3 => walk_at "ak int"); (case f4 => walk_at "ak int"); k_whole); try dsimp only))
local macro_rules | `(tactic| walk_at "binaryOp Div float int") => `(tactic| (k_here; k_dflt (refine' ak_div_fi ?hx ?f1 ?f2 ?_; (case hx => walk_at "ak lit"); (case f1 => walk_at "ak fit"); (case f2 => walk_at "ak int"); k_whole); try dsimp only))
local macro_rules | `(tactic| walk_at "call builtin:math.trunc") => `(tactic| (k_here; k_dflt (first
  | (refine' ak_trunc ?hx ?f1 ?f2 ?_; (case hx => walk_at "ak lit"); (case f1 => walk_at "ak fit"); (case f2 => walk_at "ak int"); k_whole)
  | (refine' ak_trunc_dv ?f1 ?f2 ?f3 ?f4 ?f5 ?f6 ?_; (case f1 => walk_at "ak fit"); (case f2 => walk_at "ak fit"); (case f3 => walk_at "ak int"); (case f4 => walk_at "ak int"); (case f5 => walk_at "ak int"); (case f6 => walk_at "ak int"); k_whole)); try dsimp only))
local macro_rules | `(tactic| walk_at "call type:int") => `(tactic| (k_here; (with_reducible show wpAny _ _ (call _ [Value.float _ _]) _ _ _); k_dflt (refine' ak_int ?hx ?f1 ?f2 ?_; (case hx => walk_at "ak lit"); (case f1 => walk_at "ak fit"); (case f2 => walk_at "ak int"); k_whole); try dsimp only))
local macro_rules | `(tactic| walk_at "compareOp Lt float int") => `(tactic| (k_here; k_dflt (refine' ak_lt_fi ?hx ?f1 ?_; (case hx => walk_at "ak lit"); (case f1 => walk_at "ak fit"); k_whole); try dsimp only))
local macro_rules | `(tactic| walk_at "compareOp Lt float float") => `(tactic| (k_here; k_dflt (refine' ak_lt_ff ?hx ?hy ?f1 ?f2 ?_; (case hx => walk_at "ak lit"); (case hy => walk_at "ak lit"); (case f1 => walk_at "ak fit"); (case f2 => walk_at "ak fit"); k_whole); try dsimp only))
local macro_rules | `(tactic| walk_at "compareOp NotEq float float") => `(tactic| (k_here; k_dflt (refine' ak_ne_ff ?hx ?hy ?f1 ?f2 ?_; (case hx => walk_at "ak lit"); (case hy => walk_at "ak lit"); (case f1 => walk_at "ak fit"); (case f2 => walk_at "ak fit"); k_whole); try dsimp only))
-- entering a def's contract
local macro_rules | `(tactic| walk_at "ak enter") => `(tactic| (unfold AkTells; k_fill; intro dp un gd cn cs a ccd cl outer A₀ base h₀ L m news s Q E B F X N T hk hd hu hret; refine wpAny_call ?_; k_dflt cell_enter))
section
variable {w : World} {loose : List Str} {mean : ExcName → Option Value} {mg mb : Str → Option Value}
theorem to_jd_mayan_ok {b k t u i : Int} {t1 t2 t3 t4 t5 : Tok}
   (pb : 0 ≤ b ∧ b ≤ 10000) (pk : 0 ≤ k ∧ k ≤ 10000) (pt : 0 ≤ t ∧ t ≤ 10000) (pu : 0 ≤ u ∧ u ≤ 10000) (pi : 0 ≤ i ∧ i ≤ 10000) :
   AkTells w loose mean mg mb 1 87 [.int b t1, .int k t2, .int t t3, .int u t4, .int i t5] (Val1 fun r => ∃ tk, r = .float (hf (1168565 + 2 * (b * 144000 + k * 7200 + t * 360 + u * 20 + i))) tk) := by
  unfold AkTells
  k_fill
  intro dp un gd cn cs a ccd cl outer A₀ base h₀ L m news s Q E B F X N T hk hd hu hret
  refine wpAny_call ?_
  k_dflt cell_enter
  k_steps
  refine' hret _ [] _ _ ?e1 ?e2 ⟨rfl, ?e3⟩
  case e1 => k_asm
  case e2 => k_asm
  case e3 => exact float_is (by omega)
theorem from_jd_mayan_ok {x : Int} {t1 : Tok} (px : 1168565 ≤ x ∧ x ≤ 200000000) (po : x % 2 = 1) :
   AkTells w loose mean mg mb 1 94 [.float (hf x) t1] (TupOf fun vs => ∃ u1 u2 u3 u4 u5, vs = [.int ((x - 1168565) / 2 / 144000) u1, .int ((x - 1168565) / 2 % 144000 / 7200) u2, .int ((x - 1168565) / 2 % 7200 / 360) u3, .int ((x - 1168565) / 2 % 360 / 20) u4, .int ((x - 1168565) / 2 % 20) u5]) := by
  unfold AkTells
  k_fill
  intro dp un gd cn cs a ccd cl outer A₀ base h₀ L m news s Q E B F X N T hk hd hu hret
  refine wpAny_call ?_
  k_dflt cell_enter
  k_steps
  refine' hret _ [_] _ _ ?e1 ?e2 ⟨_, _, rfl, ?e4, ?e3⟩
  case e1 => k_asm
  case e2 => k_asm
  case e4 => exact rfl
  case e3 => exact five_is (by omega) (by omega) (by omega) (by omega) (by omega)
theorem amod13_ok {x : Int} {t1 t2 : Tok} (px : 0 ≤ x ∧ x ≤ 200000000) (pe : x % 2 = 0) :
   AkTells w loose mean mg mb 1 49 [.float (hf x) t1, .int 13 t2] (Val1 fun r => ∃ tk, r = .int ((x / 2 - 1) % 13 + 1) tk) := by
  unfold AkTells
  k_fill
  intro dp un gd cn cs a ccd cl outer A₀ base h₀ L m news s Q E B F X N T hk hd hu hret
  refine wpAny_call ?_
  k_dflt cell_enter
  k_steps
  all_goals (refine' hret _ [] _ _ ?e1 ?e2 ⟨rfl, ?e3⟩; (case e1 => k_asm); (case e2 => k_asm); (case e3 => exact int_is (by omega)))
theorem amod20_ok {x : Int} {t1 t2 : Tok} (px : 0 ≤ x ∧ x ≤ 200000000) (pe : x % 2 = 0) :
   AkTells w loose mean mg mb 1 49 [.float (hf x) t1, .int 20 t2] (Val1 fun r => ∃ tk, r = .int ((x / 2 - 1) % 20 + 1) tk) := by
  unfold AkTells
  k_fill
  intro dp un gd cn cs a ccd cl outer A₀ base h₀ L m news s Q E B F X N T hk hd hu hret
  refine wpAny_call ?_
  k_dflt cell_enter
  k_steps
  all_goals (refine' hret _ [] _ _ ?e1 ?e2 ⟨rfl, ?e3⟩; (case e1 => k_asm); (case e2 => k_asm); (case e3 => exact int_is (by omega)))
theorem to_haab_ok {x : Int} {t1 : Tok} (px : 1168565 ≤ x ∧ x ≤ 200000000) (po : x % 2 = 1) :
   AkTells w loose mean mg mb 1 108 [.float (hf x) t1] (TupOf fun vs => ∃ u1 u2, vs = [.int (((x - 1168565) / 2 + 348) % 365 % 20) u1, .str (hName (((x - 1168565) / 2 + 348) % 365 / 20)) u2]) := by
  unfold AkTells
  k_fill
  intro dp un gd cn cs a ccd cl outer A₀ base h₀ L m news s Q E B F X N T hk hd hu hret
  refine wpAny_call ?_
  k_dflt cell_enter
  k_steps
  refine' hret _ [_] _ _ ?e1 ?e2 ⟨_, _, rfl, ?e4, ?e3⟩
  case e1 => k_asm
  case e2 => k_asm
  case e4 => exact rfl
  case e3 => exact two_is (by omega) (hName_of (by omega))
end
end AkHaab

-- contracts, part 2
namespace AkHaab
open PySem PySem.Float64 PySem.W PyProof.Rows PySem.Spec PySem.Calls
-- the walk's own lines for floats
local macro_rules | `(tactic| walk_at "ak fit") => `(tactic| (unfold Fit; omega))
local macro_rules | `(tactic| walk_at "ak int") => `(tactic| omega)
local macro_rules | `(tactic| walk_at "ak lit") => `(tactic| first | with_reducible rfl | exact lit_half | exact lit_epoch)
local macro_rules | `(tactic| walk_at "binaryOp Add float int") => `(tactic| (k_here; k_dflt (refine' ak_add_fi ?hx ?f1 ?f2 ?f3 ?_; (case hx => walk_at "ak lit"); (case f1 => walk_at "ak fit"); (case f2 => walk_at "ak fit"); (case f3 => walk_at "ak fit"); k_whole); try dsimp only))
local macro_rules | `(tactic| walk_at "inplaceOp Add float int") => `(tactic| (k_here; k_dflt (refine' ak_iadd_fi ?hx ?f1 ?f2 ?f3 ?_; (case hx => walk_at "ak lit"); (case f1 => walk_at "ak fit"); (case f2 => walk_at "ak fit"); (case f3 => walk_at "ak fit"); k_whole); try dsimp only))
local macro_rules | `(tactic| walk_at "binaryOp Add int float") => `(tactic| (k_here; k_dflt (refine' ak_add_if ?hx ?f1 ?f2 ?f3 ?_; (case hx => walk_at "ak lit"); (case f1 => walk_at "ak fit"); (case f2 => walk_at "ak fit"); (case f3 => walk_at "ak fit"); k_whole); try dsimp only))
local macro_rules | `(tactic| walk_at "binaryOp Sub float float") => `(tactic| (k_here; k_dflt (refine' ak_sub_ff ?hx ?hy ?f1 ?f2 ?f3 ?_; (case hx => walk_at "ak lit"); (case hy => walk_at "ak lit"); (case f1 => walk_at "ak fit"); (case f2 => walk_at "ak fit"); (case f3 => walk_at "ak fit"); k_whole); try dsimp only))
local macro_rules | `(tactic| walk_at "binaryOp Mod float int") => `(tactic| (k_here; k_dflt (refine' ak_mod_fi ?hx ?f1 ?f2 ?f3 ?f4 ?_; (case hx => walk_at "ak lit"); (case f1 => walk_at "ak fit"); (case f2 => walk_at "ak fit"); (case f3 => walk_at "ak int"); (case f4 => walk_at "ak int"); k_whole); try dsimp only))
local macro_rules | `(tactic| walk_at "binaryOp Div float int") => `(tactic| (k_here; k_dflt (refine' ak_div_fi ?hx ?f1 ?f2 ?_; (case hx => walk_at "ak lit"); (case f1 => walk_at "ak fit"); (case f2 => walk_at "ak int"); k_whole); try dsimp only))
local macro_rules | `(tactic| walk_at "call builtin:math.trunc") => `(tactic| (k_here; k_dflt (first
  | (refine' ak_trunc ?hx ?f1 ?f2 ?_; (case hx => walk_at "ak lit"); (case f1 => walk_at "ak fit"); (case f2 => walk_at "ak int"); k_whole)
  | (refine' ak_trunc_dv ?f1 ?f2 ?f3 ?f4 ?f5 ?f6 ?_; (case f1 => walk_at "ak fit"); (case f2 => walk_at "ak fit"); (case f3 => walk_at "ak int"); (case f4 => walk_at "ak int"); (case f5 => walk_at "ak int"); (case f6 => walk_at "ak int"); k_whole)); try dsimp only))
local macro_rules | `(tactic| walk_at "call type:int") => `(tactic| (k_here; (with_reducible show wpAny _ _ (call _ [Value.float _ _]) _ _ _); k_dflt (refine' ak_int ?hx ?f1 ?f2 ?_; (case hx => walk_at "ak lit"); (case f1 => walk_at "ak fit"); (case f2 => walk_at "ak int"); k_whole); try dsimp only))
local macro_rules | `(tactic| walk_at "compareOp Lt float int") => `(tactic| (k_here; k_dflt (refine' ak_lt_fi ?hx ?f1 ?_; (case hx => walk_at "ak lit"); (case f1 => walk_at "ak fit"); k_whole); try dsimp only))
local macro_rules | `(tactic| walk_at "compareOp Lt float float") => `(tactic| (k_here; k_dflt (refine' ak_lt_ff ?hx ?hy ?f1 ?f2 ?_; (case hx => walk_at "ak lit"); (case hy => walk_at "ak lit"); (case f1 => walk_at "ak fit"); (case f2 => walk_at "ak fit"); k_whole); try dsimp only))
local macro_rules | `(tactic| walk_at "compareOp NotEq float float") => `(tactic| (k_here; k_dflt (refine' ak_ne_ff ?hx ?hy ?f1 ?f2 ?_; (case hx => walk_at "ak lit"); (case hy => walk_at "ak lit"); (case f1 => walk_at "ak fit"); (case f2 => walk_at "ak fit"); k_whole); try dsimp only))
-- entering a def's contract
local macro_rules | `(tactic| walk_at "ak enter") => `(tactic| (unfold AkTells; k_fill; intro dp un gd cn cs a ccd cl outer A₀ base h₀ L m news s Q E B F X N T hk hd hu hret; refine wpAny_call ?_; k_dflt cell_enter))
-- calls by contracts
local macro_rules | `(tactic| walk_at "ak call") => `(tactic| ((case k1 => k_asm); (case k2 => k_asm); (case k3 => k_asm); (case k4 => k_asm); (case k5 => k_asm); (case kK => first | exact rfl | assumption); (case kd => ktr_room); (case ku => ktr_units)))
local macro_rules | `(tactic| walk_at "ak val") => `(tactic| (intro t9 h' tk' F' N'; (try dsimp only); (try k_sweep)))
local macro_rules | `(tactic| walk_at "ak two") => `(tactic| (intro D9 t9 u9 h' tk' F' N'; (try dsimp only); (try k_sweep)))
local macro_rules | `(tactic| walk_at "ak five") => `(tactic| (intro D9 t9 u9 v9 x9 y9 h' tk' F' N'; (try dsimp only); (try k_sweep)))
local macro_rules | `(tactic| walk_at "call ref") => `(tactic| (k_here; k_dflt (first
  | (refine' ak_useV (amod13_ok ?p1 ?p2) ?k1 ?k2 ?k3 ?k4 ?k5 ?kK ?kd ?ku ?_; (walk_at "ak call"); (case p1 => omega); (case p2 => omega); walk_at "ak val")
  | (refine' ak_useV (amod20_ok ?p1 ?p2) ?k1 ?k2 ?k3 ?k4 ?k5 ?kK ?kd ?ku ?_; (walk_at "ak call"); (case p1 => omega); (case p2 => omega); walk_at "ak val")
  | (refine' ak_useV (to_jd_mayan_ok ?p1 ?p2 ?p3 ?p4 ?p5) ?k1 ?k2 ?k3 ?k4 ?k5 ?kK ?kd ?ku ?_; (walk_at "ak call"); (case p1 => omega); (case p2 => omega); (case p3 => omega); (case p4 => omega); (case p5 => omega); walk_at "ak val")
  | (refine' ak_use5 (from_jd_mayan_ok ?p1 ?p2) ?k1 ?k2 ?k3 ?k4 ?k5 ?kK ?kd ?ku ?_; (walk_at "ak call"); (case p1 => omega); (case p2 => omega); walk_at "ak five")
  | (refine' ak_use2 (to_haab_ok ?p1 ?p2) ?k1 ?k2 ?k3 ?k4 ?k5 ?kK ?kd ?ku ?_; (walk_at "ak call"); (case p1 => omega); (case p2 => omega); walk_at "ak two"))))
-- names
local macro_rules | `(tactic| walk_at "ak name") => `(tactic| first | with_reducible rfl | exact pop_is.symm | assumption)
local macro_rules | `(tactic| walk_at "compareOp Eq str str") => `(tactic| (k_here; k_dflt (refine' ak_eq_pop ?f1 ?f2 ?_; (case f1 => omega); (case f2 => omega); k_whole); try dsimp only))
local macro_rules | `(tactic| walk_at "compareOp Eq str str") => `(tactic| (k_here; k_dflt (refine' ak_eq_str_ne ?hx ?hy ?f1 ?f2 ?f3 ?f4 ?f5 ?_; (case hx => walk_at "ak name"); (case hy => walk_at "ak name"); (case f1 => omega); (case f2 => omega); (case f3 => omega); (case f4 => omega); (case f5 => omega); k_whole); try dsimp only))
local macro_rules | `(tactic| walk_at "subscriptTail") => `(tactic| (k_here; (with_reducible show wpAny _ _ (subscriptTail _ _ (Value.ref _) (Value.int _ _)) _ _ _); ktb_letter; k_dflt (first
  | (refine' ak_item_h ?ktbl ?ktbw ?ktb0 ?ktb1 ?_; (case ktbl => ktb_isList); (case ktbw => repeat constructor); (case ktb0 => omega); (case ktb1 => omega))
  | (refine' ak_item_b ?ktbl ?ktbw ?ktb0 ?ktb1 ?_; (case ktbl => ktb_isList); (case ktbw => repeat constructor); (case ktb0 => omega); (case ktb1 => omega))); intro _; try dsimp only))
local macro_rules | `(tactic| walk_at "getMethod ref") => `(tactic| (k_here; (with_reducible show wpAny _ _ (getMethod (Value.ref _) (PySem.Str.ofString "index") _) _ _ _); k_dflt (first
  | (refine' ak_meth PySem.F.slot_list_index PySem.F.type_list_index ?X ?F ?l ?_; (case X => k_asm); (case F => k_asm); (case l => k_is))
  | (refine' ak_methN PySem.F.slot_list_index PySem.F.type_list_index ?N ?m ?_; (case N => k_asm); (case m => k_mem)))))
local macro_rules | `(tactic| walk_at "call builtin:list.index") => `(tactic| (k_here; (with_reducible show wpAny _ _ (call (Value.builtin _) [Value.ref _, Value.str _ _]) _ _ _); k_dflt (first
  | (refine' ak_index_b ?ktbl ?ktbw ?ktb0 ?ktb1 ?_; (case ktbl => ktb_isList); (case ktbw => repeat constructor); (case ktb0 => omega); (case ktb1 => omega))
  | (refine' ak_index_h ?ktbl ?ktbw ?ktbx ?ktb0 ?ktb1 ?_; (case ktbx => walk_at "ak name"); (case ktbl => ktb_isList); (case ktbw => repeat constructor); (case ktb0 => omega); (case ktb1 => omega))); try dsimp only))
local macro_rules | `(tactic| walk_at "compareOp NotIn str ref") => `(tactic| (k_here; k_dflt (refine' ak_notin_b ?ktbl ?ktbw ?ktb0 ?ktb1 ?_; (case ktbl => ktb_isList); (case ktbw => repeat constructor); (case ktb0 => omega); (case ktb1 => omega)); try dsimp only))
local macro_rules | `(tactic| walk_at "binaryOp Mod int int") => `(tactic| (k_here; k_dflt (refine' ak_mod_ii ?f1 ?_; (case f1 => first | decide | omega); k_whole); try dsimp only))
local macro_rules | `(tactic| walk_at "binaryOp FloorDiv int int") => `(tactic| (k_here; k_dflt (refine' ak_div_ii ?f1 ?f2 ?_; (case f1 => first | decide | omega); (case f2 => first | decide | omega); k_whole); try dsimp only))
section
variable {w : World} {loose : List Str} {mean : ExcName → Option Value} {mg mb : Str → Option Value}
theorem to_tzolkin_ok {x : Int} {t1 : Tok} (px : 1168565 ≤ x ∧ x ≤ 199999900) (po : x % 2 = 1) :
   AkTells w loose mean mg mb 2 115 [.float (hf x) t1] (TupOf fun vs => ∃ u1 u2, vs = [.int (((x - 1168565) / 2 + 3) % 13 + 1) u1, .str (tName (((x - 1168565) / 2 + 19) % 20)) u2]) := by
  unfold AkTells
  k_fill
  intro dp un gd cn cs a ccd cl outer A₀ base h₀ L m news s Q E B F X N T hk hd hu hret
  refine wpAny_call ?_
  k_dflt cell_enter
  k_steps
  refine' hret _ [_] _ _ ?e1 ?e2 ⟨_, _, rfl, ?e4, ?e3⟩
  case e1 => k_asm
  case e2 => k_asm
  case e4 => exact rfl
  case e3 => exact two_is (by omega) (tName_of (by omega))
theorem to_tzolkin_bear {x : Int} {t1 : Tok} (px : 1168565 ≤ x ∧ x ≤ 199999900) (po : x % 2 = 1) (p5 : (x - 1168565) / 2 % 5 = 3) :
   AkTells w loose mean mg mb 2 115 [.float (hf x) t1] (TupOf fun vs => ∃ u1 u2, vs = [.int (((x - 1168565) / 2 + 3) % 13 + 1) u1, .str (bName (((x - 1168565) / 2 + 19) % 20 / 5)) u2]) := by
  have h := @to_tzolkin_ok w loose mean mg mb x t1 px po
  rwa [tName_bear (by omega) (by omega) (by omega)] at h
theorem to_haab_first {x j : Int} {t1 : Tok} (px : 1168565 ≤ x ∧ x ≤ 200000000) (po : x % 2 = 1) (hd : ((x - 1168565) / 2 + 348) % 365 = 20 * j + 1) :
   AkTells w loose mean mg mb 1 108 [.float (hf x) t1] (TupOf fun vs => ∃ u1 u2, vs = [.int 1 u1, .str (hName j) u2]) := by
  have h := @to_haab_ok w loose mean mg mb x t1 px po
  have e1 : ((x - 1168565) / 2 + 348) % 365 % 20 = 1 := by omega
  have e2 : ((x - 1168565) / 2 + 348) % 365 / 20 = j := by omega
  rwa [e1, e2] at h
theorem haab_count_ok {c i : Int} {t1 t2 : Tok} (pc : 0 ≤ c ∧ c ≤ 19) (pi : 0 ≤ i ∧ i < 19) :
   AkTells w loose mean mg mb 1 129 [.int c t1, .str (hName i) t2] (Val1 fun r => ∃ tk, r = .int (20 * i + c) tk) := by
  unfold AkTells
  k_fill
  intro dp un gd cn cs a ccd cl outer A₀ base h₀ L m news s Q E B F X N T hk hd hu hret
  refine wpAny_call ?_
  k_dflt cell_enter
  k_steps
  all_goals (refine' hret _ [] _ _ ?e1 ?e2 ⟨rfl, ?e3⟩; (case e1 => k_asm); (case e2 => k_asm); (case e3 => exact int_is (by omega)))
end
end AkHaab

-- contracts, part 3
namespace AkHaab
open PySem PySem.Float64 PySem.W PyProof.Rows PySem.Spec PySem.Calls
-- the walk's own lines for floats
local macro_rules | `(tactic| walk_at "ak fit") => `(tactic| (unfold Fit; omega))
local macro_rules | `(tactic| walk_at "ak int") => `(tactic| omega)
local macro_rules | `(tactic| walk_at "ak lit") => `(tactic| first | with_reducible rfl | exact lit_half | exact lit_epoch)
local macro_rules | `(tactic| walk_at "binaryOp Add float int") => `(tactic| (k_here; k_dflt (refine' ak_add_fi ?hx ?f1 ?f2 ?f3 ?_; (case hx => walk_at "ak lit"); (case f1 => walk_at "ak fit"); (case f2 => walk_at "ak fit"); (case f3 => walk_at "ak fit"); k_whole); try dsimp only))
local macro_rules | `(tactic| walk_at "inplaceOp Add float int") => `(tactic| (k_here; k_dflt (refine' ak_iadd_fi ?hx ?f1 ?f2 ?f3 ?_; (case hx => walk_at "ak lit"); (case f1 => walk_at "ak fit"); (case f2 => walk_at "ak fit"); (case f3 => walk_at "ak fit"); k_whole); try dsimp only))
local macro_rules | `(tactic| walk_at "binaryOp Add int float") => `(tactic| (k_here; k_dflt (refine' ak_add_if ?hx ?f1 ?f2 ?f3 ?_; (case hx => walk_at "ak lit"); (case f1 => walk_at "ak fit"); (case f2 => walk_at "ak fit"); (case f3 => walk_at "ak fit"); k_whole); try dsimp only))
local macro_rules | `(tactic| walk_at "binaryOp Sub float float") => `(tactic| (k_here; k_dflt (refine' ak_sub_ff ?hx ?hy ?f1 ?f2 ?f3 ?_; (case hx => walk_at "ak lit"); (case hy => walk_at "ak lit"); (case f1 => walk_at "ak fit"); (case f2 => walk_at "ak fit"); (case f3 => walk_at "ak fit"); k_whole); try dsimp only))
local macro_rules | `(tactic| walk_at "binaryOp Mod float int") => `(tactic| (k_here; k_dflt (refine' ak_mod_fi ?hx ?f1 ?f2 ?f3 ?f4 ?_; (case hx => walk_at "ak lit"); (case f1 => walk_at "ak fit"); (case f2 => walk_at "ak fit"); (case f3 => walk_at "ak int"); (case f4 => walk_at "ak int"); k_whole); try dsimp only))
local macro_rules | `(tactic| walk_at "binaryOp Div float int") => `(tactic| (k_here; k_dflt (refine' ak_div_fi ?hx ?f1 ?f2 ?_; (case hx => walk_at "ak lit"); (case f1 => walk_at "ak fit"); (case f2 => walk_at "ak int"); k_whole); try dsimp only))
local macro_rules | `(tactic| walk_at "call builtin:math.trunc") => `(tactic| (k_here; k_dflt (first
  | (refine' ak_trunc ?hx ?f1 ?f2 ?_; (case hx => walk_at "ak lit"); (case f1 => walk_at "ak fit"); (case f2 => walk_at "ak int"); k_whole)
  | (refine' ak_trunc_dv ?f1 ?f2 ?f3 ?f4 ?f5 ?f6 ?_; (case f1 => walk_at "ak fit"); (case f2 => walk_at "ak fit"); (case f3 => walk_at "ak int"); (case f4 => walk_at "ak int"); (case f5 => walk_at "ak int"); (case f6 => walk_at "ak int"); k_whole)); try dsimp only))
local macro_rules | `(tactic| walk_at "call type:int") => `(tactic| (k_here; (with_reducible show wpAny _ _ (call _ [Value.float _ _]) _ _ _); k_dflt (refine' ak_int ?hx ?f1 ?f2 ?_; (case hx => walk_at "ak lit"); (case f1 => walk_at "ak fit"); (case f2 => walk_at "ak int"); k_whole); try dsimp only))
local macro_rules | `(tactic| walk_at "compareOp Lt float int") => `(tactic| (k_here; k_dflt (refine' ak_lt_fi ?hx ?f1 ?_; (case hx => walk_at "ak lit"); (case f1 => walk_at "ak fit"); k_whole); try dsimp only))
local macro_rules | `(tactic| walk_at "compareOp Lt float float") => `(tactic| (k_here; k_dflt (refine' ak_lt_ff ?hx ?hy ?f1 ?f2 ?_; (case hx => walk_at "ak lit"); (case hy => walk_at "ak lit"); (case f1 => walk_at "ak fit"); (case f2 => walk_at "ak fit"); k_whole); try dsimp only))
local macro_rules | `(tactic| walk_at "compareOp NotEq float float") => `(tactic| (k_here; k_dflt (refine' ak_ne_ff ?hx ?hy ?f1 ?f2 ?_; (case hx => walk_at "ak lit"); (case hy => walk_at "ak lit"); (case f1 => walk_at "ak fit"); (case f2 => walk_at "ak fit"); k_whole); try dsimp only))
-- entering a def's contract
local macro_rules | `(tactic| walk_at "ak enter") => `(tactic| (unfold AkTells; k_fill; intro dp un gd cn cs a ccd cl outer A₀ base h₀ L m news s Q E B F X N T hk hd hu hret; refine wpAny_call ?_; k_dflt cell_enter))
-- calls by contracts
local macro_rules | `(tactic| walk_at "ak call") => `(tactic| ((case k1 => k_asm); (case k2 => k_asm); (case k3 => k_asm); (case k4 => k_asm); (case k5 => k_asm); (case kK => first | exact rfl | assumption); (case kd => ktr_room); (case ku => ktr_units)))
local macro_rules | `(tactic| walk_at "ak val") => `(tactic| (intro t9 h' tk' F' N'; (try dsimp only); (try k_sweep)))
local macro_rules | `(tactic| walk_at "ak two") => `(tactic| (intro D9 t9 u9 h' tk' F' N'; (try dsimp only); (try k_sweep)))
local macro_rules | `(tactic| walk_at "ak five") => `(tactic| (intro D9 t9 u9 v9 x9 y9 h' tk' F' N'; (try dsimp only); (try k_sweep)))
local macro_rules | `(tactic| walk_at "call ref") => `(tactic| (k_here; k_dflt (first
  | (refine' ak_useV (amod13_ok ?p1 ?p2) ?k1 ?k2 ?k3 ?k4 ?k5 ?kK ?kd ?ku ?_; (walk_at "ak call"); (case p1 => omega); (case p2 => omega); walk_at "ak val")
  | (refine' ak_useV (amod20_ok ?p1 ?p2) ?k1 ?k2 ?k3 ?k4 ?k5 ?kK ?kd ?ku ?_; (walk_at "ak call"); (case p1 => omega); (case p2 => omega); walk_at "ak val")
  | (refine' ak_useV (to_jd_mayan_ok ?p1 ?p2 ?p3 ?p4 ?p5) ?k1 ?k2 ?k3 ?k4 ?k5 ?kK ?kd ?ku ?_; (walk_at "ak call"); (case p1 => omega); (case p2 => omega); (case p3 => omega); (case p4 => omega); (case p5 => omega); walk_at "ak val")
  | (refine' ak_use5 (from_jd_mayan_ok ?p1 ?p2) ?k1 ?k2 ?k3 ?k4 ?k5 ?kK ?kd ?ku ?_; (walk_at "ak call"); (case p1 => omega); (case p2 => omega); walk_at "ak five")
  | (refine' ak_use2 (to_haab_ok ?p1 ?p2) ?k1 ?k2 ?k3 ?k4 ?k5 ?kK ?kd ?ku ?_; (walk_at "ak call"); (case p1 => omega); (case p2 => omega); walk_at "ak two"))))
-- names
local macro_rules | `(tactic| walk_at "ak name") => `(tactic| first | with_reducible rfl | exact pop_is.symm | assumption)
local macro_rules | `(tactic| walk_at "compareOp Eq str str") => `(tactic| (k_here; k_dflt (refine' ak_eq_pop ?f1 ?f2 ?_; (case f1 => omega); (case f2 => omega); k_whole); try dsimp only))
local macro_rules | `(tactic| walk_at "compareOp Eq str str") => `(tactic| (k_here; k_dflt (refine' ak_eq_str_ne ?hx ?hy ?f1 ?f2 ?f3 ?f4 ?f5 ?_; (case hx => walk_at "ak name"); (case hy => walk_at "ak name"); (case f1 => omega); (case f2 => omega); (case f3 => omega); (case f4 => omega); (case f5 => omega); k_whole); try dsimp only))
local macro_rules | `(tactic| walk_at "subscriptTail") => `(tactic| (k_here; (with_reducible show wpAny _ _ (subscriptTail _ _ (Value.ref _) (Value.int _ _)) _ _ _); ktb_letter; k_dflt (first
  | (refine' ak_item_h ?ktbl ?ktbw ?ktb0 ?ktb1 ?_; (case ktbl => ktb_isList); (case ktbw => repeat constructor); (case ktb0 => omega); (case ktb1 => omega))
  | (refine' ak_item_b ?ktbl ?ktbw ?ktb0 ?ktb1 ?_; (case ktbl => ktb_isList); (case ktbw => repeat constructor); (case ktb0 => omega); (case ktb1 => omega))); intro _; try dsimp only))
local macro_rules | `(tactic| walk_at "getMethod ref") => `(tactic| (k_here; (with_reducible show wpAny _ _ (getMethod (Value.ref _) (PySem.Str.ofString "index") _) _ _ _); k_dflt (first
  | (refine' ak_meth PySem.F.slot_list_index PySem.F.type_list_index ?X ?F ?l ?_; (case X => k_asm); (case F => k_asm); (case l => k_is))
  | (refine' ak_methN PySem.F.slot_list_index PySem.F.type_list_index ?N ?m ?_; (case N => k_asm); (case m => k_mem)))))
local macro_rules | `(tactic| walk_at "call builtin:list.index") => `(tactic| (k_here; (with_reducible show wpAny _ _ (call (Value.builtin _) [Value.ref _, Value.str _ _]) _ _ _); k_dflt (first
  | (refine' ak_index_b ?ktbl ?ktbw ?ktb0 ?ktb1 ?_; (case ktbl => ktb_isList); (case ktbw => repeat constructor); (case ktb0 => omega); (case ktb1 => omega))
  | (refine' ak_index_h ?ktbl ?ktbw ?ktbx ?ktb0 ?ktb1 ?_; (case ktbx => walk_at "ak name"); (case ktbl => ktb_isList); (case ktbw => repeat constructor); (case ktb0 => omega); (case ktb1 => omega))); try dsimp only))
local macro_rules | `(tactic| walk_at "compareOp NotIn str ref") => `(tactic| (k_here; k_dflt (refine' ak_notin_b ?ktbl ?ktbw ?ktb0 ?ktb1 ?_; (case ktbl => ktb_isList); (case ktbw => repeat constructor); (case ktb0 => omega); (case ktb1 => omega)); try dsimp only))
local macro_rules | `(tactic| walk_at "binaryOp Mod int int") => `(tactic| (k_here; k_dflt (refine' ak_mod_ii ?f1 ?_; (case f1 => first | decide | omega); k_whole); try dsimp only))
local macro_rules | `(tactic| walk_at "binaryOp FloorDiv int int") => `(tactic| (k_here; k_dflt (refine' ak_div_ii ?f1 ?f2 ?_; (case f1 => first | decide | omega); (case f2 => first | decide | omega); k_whole); try dsimp only))
local macro_rules | `(tactic| walk_at "call ref") => `(tactic| (k_here; k_dflt (first
  | (refine' ak_useV (haab_count_ok ?p1 ?p2) ?k1 ?k2 ?k3 ?k4 ?k5 ?kK ?kd ?ku ?_; (walk_at "ak call"); (case p1 => omega); (case p2 => omega); walk_at "ak val"))))
section
variable {w : World} {loose : List Str} {mean : ExcName → Option Value} {mg mb : Str → Option Value}
theorem next_haab_ok {x j : Int} {mo : Str} {t1 t2 : Tok} (hm : mo = hName j) (pj : 0 ≤ j ∧ j < 19) (px : 1168565 ≤ x ∧ x ≤ 199990000) (po : x % 2 = 1) (hne : ((x - 1168565) / 2 + 348) % 365 / 20 ≠ j) :
   AkTells w loose mean mg mb 2 136 [.str mo t1, .float (hf x) t2] (Val1 fun r => ∃ tk, r = .float (hf (x + 2 * ((20 * j + 1 - ((x - 1168565) / 2 + 348) % 365) % 365))) tk) := by
  subst hm
  unfold AkTells
  k_fill
  intro dp un gd cn cs a ccd cl outer A₀ base h₀ L m news s Q E B F X N T hk hd hu hret
  refine wpAny_call ?_
  k_dflt cell_enter
  k_steps
  all_goals (refine' hret _ [] _ _ ?e1 ?e2 ⟨rfl, ?e3⟩; (case e1 => k_asm); (case e2 => first | k_asm | exact cb_drop (by k_asm) (fun p hp => List.Mem.tail _ hp)); (case e3 => exact float_is (by omega)))
end
end AkHaab

-- contracts, part 4
namespace AkHaab
open PySem PySem.Float64 PySem.W PyProof.Rows PySem.Spec PySem.Calls
-- the walk's own lines for floats
local macro_rules | `(tactic| walk_at "ak fit") => `(tactic| (unfold Fit; omega))
local macro_rules | `(tactic| walk_at "ak int") => `(tactic| omega)
local macro_rules | `(tactic| walk_at "ak lit") => `(tactic| first | with_reducible rfl | exact lit_half | exact lit_epoch)
local macro_rules | `(tactic| walk_at "binaryOp Add float int") => `(tactic| (k_here; k_dflt (refine' ak_add_fi ?hx ?f1 ?f2 ?f3 ?_; (case hx => walk_at "ak lit"); (case f1 => walk_at "ak fit"); (case f2 => walk_at "ak fit"); (case f3 => walk_at "ak fit"); k_whole); try dsimp only))
local macro_rules | `(tactic| walk_at "inplaceOp Add float int") => `(tactic| (k_here; k_dflt (refine' ak_iadd_fi ?hx ?f1 ?f2 ?f3 ?_; (case hx => walk_at "ak lit"); (case f1 => walk_at "ak fit"); (case f2 => walk_at "ak fit"); (case f3 => walk_at "ak fit"); k_whole); try dsimp only))
local macro_rules | `(tactic| walk_at "binaryOp Add int float") => `(tactic| (k_here; k_dflt (refine' ak_add_if ?hx ?f1 ?f2 ?f3 ?_; (case hx => walk_at "ak lit"); (case f1 => walk_at "ak fit"); (case f2 => walk_at "ak fit"); (case f3 => walk_at "ak fit"); k_whole); try dsimp only))
local macro_rules | `(tactic| walk_at "binaryOp Sub float float") => `(tactic| (k_here; k_dflt (refine' ak_sub_ff ?hx ?hy ?f1 ?f2 ?f3 ?_; (case hx => walk_at "ak lit"); (case hy => walk_at "ak lit"); (case f1 => walk_at "ak fit"); (case f2 => walk_at "ak fit"); (case f3 => walk_at "ak fit"); k_whole); try dsimp only))
local macro_rules | `(tactic| walk_at "binaryOp Mod float int") => `(tactic| (k_here; k_dflt (refine' ak_mod_fi ?hx ?f1 ?f2 ?f3 ?f4 ?_; (case hx => walk_at "ak lit"); (case f1 => walk_at "ak fit"); (case f2 => walk_at "ak fit"); (case f3 => walk_at "ak int"); (case f4 => walk_at "ak int"); k_whole); try dsimp only))
local macro_rules | `(tactic| walk_at "binaryOp Div float int") => `(tactic| (k_here; k_dflt (refine' ak_div_fi ?hx ?f1 ?f2 ?_; (case hx => walk_at "ak lit"); (case f1 => walk_at "ak fit"); (case f2 => walk_at "ak int"); k_whole); try dsimp only))
local macro_rules | `(tactic| walk_at "call builtin:math.trunc") => `(tactic| (k_here; k_dflt (first
  | (refine' ak_trunc ?hx ?f1 ?f2 ?_; (case hx => walk_at "ak lit"); (case f1 => walk_at "ak fit"); (case f2 => walk_at "ak int"); k_whole)
  | (refine' ak_trunc_dv ?f1 ?f2 ?f3 ?f4 ?f5 ?f6 ?_; (case f1 => walk_at "ak fit"); (case f2 => walk_at "ak fit"); (case f3 => walk_at "ak int"); (case f4 => walk_at "ak int"); (case f5 => walk_at "ak int"); (case f6 => walk_at "ak int"); k_whole)); try dsimp only))
local macro_rules | `(tactic| walk_at "call type:int") => `(tactic| (k_here; (with_reducible show wpAny _ _ (call _ [Value.float _ _]) _ _ _); k_dflt (refine' ak_int ?hx ?f1 ?f2 ?_; (case hx => walk_at "ak lit"); (case f1 => walk_at "ak fit"); (case f2 => walk_at "ak int"); k_whole); try dsimp only))
local macro_rules | `(tactic| walk_at "compareOp Lt float int") => `(tactic| (k_here; k_dflt (refine' ak_lt_fi ?hx ?f1 ?_; (case hx => walk_at "ak lit"); (case f1 => walk_at "ak fit"); k_whole); try dsimp only))
local macro_rules | `(tactic| walk_at "compareOp Lt float float") => `(tactic| (k_here; k_dflt (refine' ak_lt_ff ?hx ?hy ?f1 ?f2 ?_; (case hx => walk_at "ak lit"); (case hy => walk_at "ak lit"); (case f1 => walk_at "ak fit"); (case f2 => walk_at "ak fit"); k_whole); try dsimp only))
local macro_rules | `(tactic| walk_at "compareOp NotEq float float") => `(tactic| (k_here; k_dflt (refine' ak_ne_ff ?hx ?hy ?f1 ?f2 ?_; (case hx => walk_at "ak lit"); (case hy => walk_at "ak lit"); (case f1 => walk_at "ak fit"); (case f2 => walk_at "ak fit"); k_whole); try dsimp only))
-- entering a def's contract
local macro_rules | `(tactic| walk_at "ak enter") => `(tactic| (unfold AkTells; k_fill; intro dp un gd cn cs a ccd cl outer A₀ base h₀ L m news s Q E B F X N T hk hd hu hret; refine wpAny_call ?_; k_dflt cell_enter))
-- calls by contracts
local macro_rules | `(tactic| walk_at "ak call") => `(tactic| ((case k1 => k_asm); (case k2 => k_asm); (case k3 => k_asm); (case k4 => k_asm); (case k5 => k_asm); (case kK => first | exact rfl | assumption); (case kd => ktr_room); (case ku => ktr_units)))
local macro_rules | `(tactic| walk_at "ak val") => `(tactic| (intro t9 h' tk' F' N'; (try dsimp only); (try k_sweep)))
local macro_rules | `(tactic| walk_at "ak two") => `(tactic| (intro D9 t9 u9 h' tk' F' N'; (try dsimp only); (try k_sweep)))
local macro_rules | `(tactic| walk_at "ak five") => `(tactic| (intro D9 t9 u9 v9 x9 y9 h' tk' F' N'; (try dsimp only); (try k_sweep)))
local macro_rules | `(tactic| walk_at "call ref") => `(tactic| (k_here; k_dflt (first
  | (refine' ak_useV (amod13_ok ?p1 ?p2) ?k1 ?k2 ?k3 ?k4 ?k5 ?kK ?kd ?ku ?_; (walk_at "ak call"); (case p1 => omega); (case p2 => omega); walk_at "ak val")
  | (refine' ak_useV (amod20_ok ?p1 ?p2) ?k1 ?k2 ?k3 ?k4 ?k5 ?kK ?kd ?ku ?_; (walk_at "ak call"); (case p1 => omega); (case p2 => omega); walk_at "ak val")
  | (refine' ak_useV (to_jd_mayan_ok ?p1 ?p2 ?p3 ?p4 ?p5) ?k1 ?k2 ?k3 ?k4 ?k5 ?kK ?kd ?ku ?_; (walk_at "ak call"); (case p1 => omega); (case p2 => omega); (case p3 => omega); (case p4 => omega); (case p5 => omega); walk_at "ak val")
  | (refine' ak_use5 (from_jd_mayan_ok ?p1 ?p2) ?k1 ?k2 ?k3 ?k4 ?k5 ?kK ?kd ?ku ?_; (walk_at "ak call"); (case p1 => omega); (case p2 => omega); walk_at "ak five")
  | (refine' ak_use2 (to_haab_ok ?p1 ?p2) ?k1 ?k2 ?k3 ?k4 ?k5 ?kK ?kd ?ku ?_; (walk_at "ak call"); (case p1 => omega); (case p2 => omega); walk_at "ak two"))))
-- names
local macro_rules | `(tactic| walk_at "ak name") => `(tactic| first | with_reducible rfl | exact pop_is.symm | assumption)
local macro_rules | `(tactic| walk_at "compareOp Eq str str") => `(tactic| (k_here; k_dflt (refine' ak_eq_pop ?f1 ?f2 ?_; (case f1 => omega); (case f2 => omega); k_whole); try dsimp only))
local macro_rules | `(tactic| walk_at "compareOp Eq str str") => `(tactic| (k_here; k_dflt (refine' ak_eq_str_ne ?hx ?hy ?f1 ?f2 ?f3 ?f4 ?f5 ?_; (case hx => walk_at "ak name"); (case hy => walk_at "ak name"); (case f1 => omega); (case f2 => omega); (case f3 => omega); (case f4 => omega); (case f5 => omega); k_whole); try dsimp only))
local macro_rules | `(tactic| walk_at "subscriptTail") => `(tactic| (k_here; (with_reducible show wpAny _ _ (subscriptTail _ _ (Value.ref _) (Value.int _ _)) _ _ _); ktb_letter; k_dflt (first
  | (refine' ak_item_h ?ktbl ?ktbw ?ktb0 ?ktb1 ?_; (case ktbl => ktb_isList); (case ktbw => repeat constructor); (case ktb0 => omega); (case ktb1 => omega))
  | (refine' ak_item_b ?ktbl ?ktbw ?ktb0 ?ktb1 ?_; (case ktbl => ktb_isList); (case ktbw => repeat constructor); (case ktb0 => omega); (case ktb1 => omega))); intro _; try dsimp only))
local macro_rules | `(tactic| walk_at "getMethod ref") => `(tactic| (k_here; (with_reducible show wpAny _ _ (getMethod (Value.ref _) (PySem.Str.ofString "index") _) _ _ _); k_dflt (first
  | (refine' ak_meth PySem.F.slot_list_index PySem.F.type_list_index ?X ?F ?l ?_; (case X => k_asm); (case F => k_asm); (case l => k_is))
  | (refine' ak_methN PySem.F.slot_list_index PySem.F.type_list_index ?N ?m ?_; (case N => k_asm); (case m => k_mem)))))
local macro_rules | `(tactic| walk_at "call builtin:list.index") => `(tactic| (k_here; (with_reducible show wpAny _ _ (call (Value.builtin _) [Value.ref _, Value.str _ _]) _ _ _); k_dflt (first
  | (refine' ak_index_b ?ktbl ?ktbw ?ktb0 ?ktb1 ?_; (case ktbl => ktb_isList); (case ktbw => repeat constructor); (case ktb0 => omega); (case ktb1 => omega))
  | (refine' ak_index_h ?ktbl ?ktbw ?ktbx ?ktb0 ?ktb1 ?_; (case ktbx => walk_at "ak name"); (case ktbl => ktb_isList); (case ktbw => repeat constructor); (case ktb0 => omega); (case ktb1 => omega))); try dsimp only))
local macro_rules | `(tactic| walk_at "compareOp NotIn str ref") => `(tactic| (k_here; k_dflt (refine' ak_notin_b ?ktbl ?ktbw ?ktb0 ?ktb1 ?_; (case ktbl => ktb_isList); (case ktbw => repeat constructor); (case ktb0 => omega); (case ktb1 => omega)); try dsimp only))
local macro_rules | `(tactic| walk_at "binaryOp Mod int int") => `(tactic| (k_here; k_dflt (refine' ak_mod_ii ?f1 ?_; (case f1 => first | decide | omega); k_whole); try dsimp only))
local macro_rules | `(tactic| walk_at "binaryOp FloorDiv int int") => `(tactic| (k_here; k_dflt (refine' ak_div_ii ?f1 ?f2 ?_; (case f1 => first | decide | omega); (case f2 => first | decide | omega); k_whole); try dsimp only))
local macro_rules | `(tactic| walk_at "call ref") => `(tactic| (k_here; k_dflt (first
  | (refine' ak_useV (haab_count_ok ?p1 ?p2) ?k1 ?k2 ?k3 ?k4 ?k5 ?kK ?kd ?ku ?_; (walk_at "ak call"); (case p1 => omega); (case p2 => omega); walk_at "ak val"))))
local macro_rules | `(tactic| walk_at "call ref") => `(tactic| (k_here; k_dflt (first
  | (refine' ak_use2 (to_tzolkin_ok ?p1 ?p2) ?k1 ?k2 ?k3 ?k4 ?k5 ?kK ?kd ?ku ?_; (walk_at "ak call"); (case p1 => omega); (case p2 => omega); walk_at "ak two"))))
local macro_rules | `(tactic| walk_at "call ref") => `(tactic| (k_here; k_dflt (first
  | (refine' ak_use2 (to_tzolkin_bear ?p1 ?p2 ?p3) ?k1 ?k2 ?k3 ?k4 ?k5 ?kK ?kd ?ku ?_; (walk_at "ak call"); (case p1 => omega); (case p2 => omega); (case p3 => omega); walk_at "ak two")
  | (refine' ak_useV (next_haab_ok (j := 0) ?hm ?p1 ?p2 ?p3 ?p4) ?k1 ?k2 ?k3 ?k4 ?k5 ?kK ?kd ?ku ?_; (case hm => walk_at "ak name"); (walk_at "ak call"); (case p1 => omega); (case p2 => omega); (case p3 => omega); (case p4 => omega); walk_at "ak val")
  | (refine' ak_use2 (to_haab_first (j := 0) ?p1 ?p2 ?p3) ?k1 ?k2 ?k3 ?k4 ?k5 ?kK ?kd ?ku ?_; (walk_at "ak call"); (case p1 => omega); (case p2 => omega); (case p3 => omega); walk_at "ak two"))))
-- a bound str.format, called with a star
local macro_rules | `(tactic| walk_at "eval Call Attribute") => `(tactic| (k_here; (with_reducible show wpAny _ _ (eval (Expr.Call (Expr.Attribute (Expr.Constant _ _ _) _ _) [Expr.Starred _ _] [] _) _) _ _ _); k_dflt (refine' star_method ?_); try dsimp only))
local macro_rules | `(tactic| walk_at "getAttr str") => `(tactic| (k_here; k_dflt (refine' fm_attrN ?F ?N ?_; (case F => k_asm); (case N => k_asm)); intro D9 h' tk' F' N'; (try dsimp only); (try k_sweep)))
local macro_rules | `(tactic| walk_at "callWith ref") => `(tactic| (k_here; (with_reducible show wpAny _ _ (callWith _ (Value.ref _) _ (backTo _ (starEach [Expr.Starred _ _] _)) []) _ _ _); k_dflt (refine' callWith_B ?N ?hm ?_; (case N => k_asm); (case hm => k_mem); k_whole)))
local macro_rules | `(tactic| walk_at "And") => `(tactic| ((with_reducible show AtB _ _ _ ∧ _); k_dflt (refine ⟨atB_of (by k_asm) (by k_mem), ?_⟩); (try dsimp only [List.nil_append, List.cons_append])))
local macro_rules | `(tactic| walk_at "call ref") => `(tactic| (k_here; (with_reducible show wpAny _ _ (call (Value.ref _) [Value.int _ _, Value.str _ _, Value.int _ _, Value.str _ _]) _ _ _); k_dflt (refine' bfm_format ?ho ?f1 ?f2 ?f3 ?f4 ?_; (case ho => exact News.get (by k_asm) (by k_mem)); (case f1 => omega); (case f2 => omega); (case f3 => first | exact tName_len _ | exact hName_len _); (case f4 => exact hName_len _)); intro t9 k9; (try dsimp only)))
/-- the text of a day -/
@[irreducible] def lcText (n : Int) : Str := Str.ofString (toString ((n + 3) % 13 + 1)) ++ Str.ofString " " ++ tName ((n + 19) % 20) ++ Str.ofString " " ++ Str.ofString (toString ((n + 348) % 365 % 20)) ++ Str.ofString " " ++ hName ((n + 348) % 365 / 20)
theorem lcText_is {A B C D n : Int} {t : Tok} (hA : A = (n + 3) % 13 + 1) (hB : B = (n + 19) % 20) (hC : C = (n + 348) % 365 % 20) (hD : D = (n + 348) % 365 / 20) :
    ∃ tk, Value.str (Str.ofString (toString A) ++ Str.ofString " " ++ tName B ++ Str.ofString " " ++ Str.ofString (toString C) ++ Str.ofString " " ++ hName D) t = .str (lcText n) tk := ⟨t, by unfold lcText; rw [hA, hB, hC, hD]⟩
theorem lcText_zero : lcText 0 = Str.ofString "4 Ajaw 8 Kumk'u" := by unfold lcText tName hName; decide +kernel
theorem one_pop : Str.ofString " " ++ Str.ofString (toString (1 : Int)) ++ Str.ofString " " ++ Str.ofString "Pop" = Str.ofString " 1 Pop" := by decide +kernel
theorem lcText_new {n : Int} (h5 : n % 5 = 3) (hd : (n + 348) % 365 = 1) : lcText n = Str.ofString (toString ((n + 3) % 13 + 1)) ++ Str.ofString " " ++ bName ((n + 19) % 20 / 5) ++ Str.ofString " 1 Pop" := by
  unfold lcText
  rw [hd, tName_bear (by omega) (by omega) (by omega), ← one_pop]
  show _ ++ hName 0 = _
  rw [pop_is]
  simp only [Str.append_assoc]
  rfl
section
variable {w : World} {loose : List Str} {mean : ExcName → Option Value} {mg mb : Str → Option Value}
theorem lc_ok {b k t u i : Int} {t1 t2 t3 t4 t5 : Tok}
   (pb : 0 ≤ b ∧ b ≤ 300) (pk : 0 ≤ k ∧ k ≤ 1000) (pt : 0 ≤ t ∧ t ≤ 1000) (pu : 0 ≤ u ∧ u ≤ 1000) (pi : 0 ≤ i ∧ i ≤ 1000) :
   AkTells w loose mean mg mb 3 122 [.int b t1, .int k t2, .int t t3, .int u t4, .int i t5] (Val1 fun r => ∃ tk, r = .str (lcText (b * 144000 + k * 7200 + t * 360 + u * 20 + i)) tk) := by
  unfold AkTells
  k_fill
  intro dp un gd cn cs a ccd cl outer A₀ base h₀ L m news s Q E B F X N T hk hd hu hret
  refine wpAny_call ?_
  k_dflt cell_enter
  k_steps
  refine' hret _ [] _ _ ?e1 ?e2 ⟨rfl, ?e3⟩
  case e1 => k_asm
  case e2 => exact cb_drop (by k_asm) (fun p hp => .tail _ (.tail _ (.tail _ (.tail _ hp))))
  case e3 => exact lcText_is (by omega) (by omega) (by omega) (by omega)
theorem lc_zero {t1 t2 t3 t4 t5 : Tok} :
   AkTells w loose mean mg mb 3 122 [.int 0 t1, .int 0 t2, .int 0 t3, .int 0 t4, .int 0 t5] (Val1 fun r => ∃ tk, r = .str (Str.ofString "4 Ajaw 8 Kumk'u") tk) := by
  have h := @lc_ok w loose mean mg mb 0 0 0 0 0 t1 t2 t3 t4 t5 (by omega) (by omega) (by omega) (by omega) (by omega)
  have e : ((0 : Int) * 144000 + 0 * 7200 + 0 * 360 + 0 * 20 + 0) = 0 := by decide
  rwa [e, lcText_zero] at h
theorem lc_new {b k t u i n : Int} {t1 t2 t3 t4 t5 : Tok} (hn : n = b * 144000 + k * 7200 + t * 360 + u * 20 + i) (h5 : n % 5 = 3) (hd : (n + 348) % 365 = 1)
   (pb : 0 ≤ b ∧ b ≤ 300) (pk : 0 ≤ k ∧ k ≤ 1000) (pt : 0 ≤ t ∧ t ≤ 1000) (pu : 0 ≤ u ∧ u ≤ 1000) (pi : 0 ≤ i ∧ i ≤ 1000) :
   AkTells w loose mean mg mb 3 122 [.int b t1, .int k t2, .int t t3, .int u t4, .int i t5] (Val1 fun r => ∃ tk, r = .str (Str.ofString (toString ((n + 3) % 13 + 1)) ++ Str.ofString " " ++ bName ((n + 19) % 20 / 5) ++ Str.ofString " 1 Pop") tk) := by
  have h := @lc_ok w loose mean mg mb b k t u i t1 t2 t3 t4 t5 pb pk pt pu pi
  rwa [← hn, lcText_new h5 hd] at h
end
end AkHaab

-- contracts, part 5
namespace AkHaab
open PySem PySem.Float64 PySem.W PyProof.Rows PySem.Spec PySem.Calls
-- Gregorian dates: one closed call
local macro_rules | `(tactic| walk_at "ak lit") => `(tactic| first | with_reducible rfl | exact lit_half | exact lit_epoch | exact lit_greg)
local macro_rules | `(tactic| walk_at "binaryOp Sub float int") => `(tactic| (k_here; k_dflt (refine' ak_sub_fi ?hx ?f1 ?f2 ?f3 ?_; (case hx => walk_at "ak lit"); (case f1 => walk_at "ak fit"); (case f2 => walk_at "ak fit"); (case f3 => walk_at "ak fit"); k_whole); try dsimp only))
local macro_rules | `(tactic| walk_at "call builtin:math.floor") => `(tactic| (k_here; k_dflt (first
  | (refine' ak_floor ?hx ?f1 ?f2 ?_; (case hx => walk_at "ak lit"); (case f1 => walk_at "ak fit"); (case f2 => walk_at "ak int"); k_whole)
  | (refine' ak_floor_dv ?f1 ?f2 ?f3 ?f4 ?f5 ?f6 ?_; (case f1 => walk_at "ak fit"); (case f2 => walk_at "ak fit"); (case f3 => walk_at "ak int"); (case f4 => walk_at "ak int"); (case f5 => walk_at "ak int"); (case f6 => walk_at "ak int"); k_whole)
  | (refine' ak_floor_cl (k := 1) ?hd ?_; (case hd => decide +kernel); k_whole)
  | (refine' ak_floor_cl (k := 336) ?hd ?_; (case hd => decide +kernel); k_whole)
  | (refine' ak_floor_cl (k := 502) ?hd ?_; (case hd => decide +kernel); k_whole)
  | (refine' ak_floor_cl (k := 20) ?hd ?_; (case hd => decide +kernel); k_whole)
  | (refine' ak_floor_cl (k := 5) ?hd ?_; (case hd => decide +kernel); k_whole)); try dsimp only))
local macro_rules | `(tactic| walk_at "call ref") => `(tactic| (k_here; (refine wpAny_call ?_); k_dflt (refine' code_def ?k1 ?k2 ?k3 ?k4 ?k5 ?kA ?kF ?kK ?k6 ?k7 ?k8 ?k9 ?kB ?_ ?c2 ?c3 ?c4 ?c5; (case kA => exact rfl); (case kF => exact rfl); (case kK => exact rfl); (case k1 => k_asm); (case k2 => k_asm); (case k3 => k_asm); (case k4 => k_asm); (case k5 => k_asm); (case k6 => k_is); (case k7 => k_is); (case k8 => ktr_room); (case k9 => exact BindsTo.of_eq rfl); (case c5 => decide); (case kB => exact locs rfl); (case c2 => exact rfl); (case c3 => exact rfl); (case c4 => exact rfl); k_whole; intro g' L' h' FG' F' N' B' X' T'; (try dsimp only); (try k_lift B'); (try k_fold))))
local macro_rules | `(tactic| walk_at "compareOp In int ref") => `(tactic| (k_here; k_dflt (refine' in_tuple_ints ?ht ?hi ?_; (case ht => ktb_isTup); (case hi => repeat constructor)); try dsimp only))
local macro_rules | `(tactic| walk_at "binaryOp Mult float int") => `(tactic| (k_here; k_dflt (refine' ak_mul_fi ?hx ?f1 ?f2 ?f3 ?f4 ?f5 ?_; (case hx => walk_at "ak lit"); (case f1 => walk_at "ak fit"); (case f2 => walk_at "ak fit"); (case f3 => walk_at "ak fit"); (case f4 => walk_at "ak int"); (case f5 => walk_at "ak int"); k_whole); try dsimp only))
-- the walk's own lines for floats
local macro_rules | `(tactic| walk_at "ak fit") => `(tactic| (unfold Fit; omega))
local macro_rules | `(tactic| walk_at "ak int") => `(tactic| omega)
local macro_rules | `(tactic| walk_at "ak lit") => `(tactic| first | with_reducible rfl | exact lit_half | exact lit_epoch)
local macro_rules | `(tactic| walk_at "binaryOp Add float int") => `(tactic| (k_here; k_dflt (refine' ak_add_fi ?hx ?f1 ?f2 ?f3 ?_; (case hx => walk_at "ak lit"); (case f1 => walk_at "ak fit"); (case f2 => walk_at "ak fit"); (case f3 => walk_at "ak fit"); k_whole); try dsimp only))
local macro_rules | `(tactic| walk_at "inplaceOp Add float int") => `(tactic| (k_here; k_dflt (refine' ak_iadd_fi ?hx ?f1 ?f2 ?f3 ?_; (case hx => walk_at "ak lit"); (case f1 => walk_at "ak fit"); (case f2 => walk_at "ak fit"); (case f3 => walk_at "ak fit"); k_whole); try dsimp only))
local macro_rules | `(tactic| walk_at "binaryOp Add int float") => `(tactic| (k_here; k_dflt (refine' ak_add_if ?hx ?f1 ?f2 ?f3 ?_; (case hx => walk_at "ak lit"); (case f1 => walk_at "ak fit"); (case f2 => walk_at "ak fit"); (case f3 => walk_at "ak fit"); k_whole); try dsimp only))
local macro_rules | `(tactic| walk_at "binaryOp Sub float float") => `(tactic| (k_here; k_dflt (refine' ak_sub_ff ?hx ?hy ?f1 ?f2 ?f3 ?_; (case hx => walk_at "ak lit"); (case hy => walk_at "ak lit"); (case f1 => walk_at "ak fit"); (case f2 => walk_at "ak fit"); (case f3 => walk_at "ak fit"); k_whole); try dsimp only))
local macro_rules | `(tactic| walk_at "binaryOp Mod float int") => `(tactic| (k_here; k_dflt (refine' ak_mod_fi ?hx ?f1 ?f2 ?f3 ?f4 ?_; (case hx => walk_at "ak lit"); (case f1 => walk_at "ak fit"); (case f2 => walk_at "ak fit"); (case f3 => walk_at "ak int"); (case f4 => walk_at "ak int"); k_whole); try dsimp only))
local macro_rules | `(tactic| walk_at "binaryOp Div float int") => `(tactic| (k_here; k_dflt (refine' ak_div_fi ?hx ?f1 ?f2 ?_; (case hx => walk_at "ak lit"); (case f1 => walk_at "ak fit"); (case f2 => walk_at "ak int"); k_whole); try dsimp only))
local macro_rules | `(tactic| walk_at "call builtin:math.trunc") => `(tactic| (k_here; k_dflt (first
  | (refine' ak_trunc ?hx ?f1 ?f2 ?_; (case hx => walk_at "ak lit"); (case f1 => walk_at "ak fit"); (case f2 => walk_at "ak int"); k_whole)
  | (refine' ak_trunc_dv ?f1 ?f2 ?f3 ?f4 ?f5 ?f6 ?_; (case f1 => walk_at "ak fit"); (case f2 => walk_at "ak fit"); (case f3 => walk_at "ak int"); (case f4 => walk_at "ak int"); (case f5 => walk_at "ak int"); (case f6 => walk_at "ak int"); k_whole)); try dsimp only))
local macro_rules | `(tactic| walk_at "call type:int") => `(tactic| (k_here; (with_reducible show wpAny _ _ (call _ [Value.float _ _]) _ _ _); k_dflt (refine' ak_int ?hx ?f1 ?f2 ?_; (case hx => walk_at "ak lit"); (case f1 => walk_at "ak fit"); (case f2 => walk_at "ak int"); k_whole); try dsimp only))
local macro_rules | `(tactic| walk_at "compareOp Lt float int") => `(tactic| (k_here; k_dflt (refine' ak_lt_fi ?hx ?f1 ?_; (case hx => walk_at "ak lit"); (case f1 => walk_at "ak fit"); k_whole); try dsimp only))
local macro_rules | `(tactic| walk_at "compareOp Lt float float") => `(tactic| (k_here; k_dflt (refine' ak_lt_ff ?hx ?hy ?f1 ?f2 ?_; (case hx => walk_at "ak lit"); (case hy => walk_at "ak lit"); (case f1 => walk_at "ak fit"); (case f2 => walk_at "ak fit"); k_whole); try dsimp only))
local macro_rules | `(tactic| walk_at "compareOp NotEq float float") => `(tactic| (k_here; k_dflt (refine' ak_ne_ff ?hx ?hy ?f1 ?f2 ?_; (case hx => walk_at "ak lit"); (case hy => walk_at "ak lit"); (case f1 => walk_at "ak fit"); (case f2 => walk_at "ak fit"); k_whole); try dsimp only))
-- entering a def's contract
local macro_rules | `(tactic| walk_at "ak enter") => `(tactic| (unfold AkTells; k_fill; intro dp un gd cn cs a ccd cl outer A₀ base h₀ L m news s Q E B F X N T hk hd hu hret; refine wpAny_call ?_; k_dflt cell_enter))
-- calls by contracts
local macro_rules | `(tactic| walk_at "ak call") => `(tactic| ((case k1 => k_asm); (case k2 => k_asm); (case k3 => k_asm); (case k4 => k_asm); (case k5 => k_asm); (case kK => first | exact rfl | assumption); (case kd => ktr_room); (case ku => ktr_units)))
local macro_rules | `(tactic| walk_at "ak val") => `(tactic| (intro t9 h' tk' F' N'; (try dsimp only); (try k_sweep)))
local macro_rules | `(tactic| walk_at "ak two") => `(tactic| (intro D9 t9 u9 h' tk' F' N'; (try dsimp only); (try k_sweep)))
local macro_rules | `(tactic| walk_at "ak five") => `(tactic| (intro D9 t9 u9 v9 x9 y9 h' tk' F' N'; (try dsimp only); (try k_sweep)))
local macro_rules | `(tactic| walk_at "call ref") => `(tactic| (k_here; k_dflt (first
  | (refine' ak_useV (amod13_ok ?p1 ?p2) ?k1 ?k2 ?k3 ?k4 ?k5 ?kK ?kd ?ku ?_; (walk_at "ak call"); (case p1 => omega); (case p2 => omega); walk_at "ak val")
  | (refine' ak_useV (amod20_ok ?p1 ?p2) ?k1 ?k2 ?k3 ?k4 ?k5 ?kK ?kd ?ku ?_; (walk_at "ak call"); (case p1 => omega); (case p2 => omega); walk_at "ak val")
  | (refine' ak_useV (to_jd_mayan_ok ?p1 ?p2 ?p3 ?p4 ?p5) ?k1 ?k2 ?k3 ?k4 ?k5 ?kK ?kd ?ku ?_; (walk_at "ak call"); (case p1 => omega); (case p2 => omega); (case p3 => omega); (case p4 => omega); (case p5 => omega); walk_at "ak val")
  | (refine' ak_use5 (from_jd_mayan_ok ?p1 ?p2) ?k1 ?k2 ?k3 ?k4 ?k5 ?kK ?kd ?ku ?_; (walk_at "ak call"); (case p1 => omega); (case p2 => omega); walk_at "ak five")
  | (refine' ak_use2 (to_haab_ok ?p1 ?p2) ?k1 ?k2 ?k3 ?k4 ?k5 ?kK ?kd ?ku ?_; (walk_at "ak call"); (case p1 => omega); (case p2 => omega); walk_at "ak two"))))
-- names
local macro_rules | `(tactic| walk_at "ak name") => `(tactic| first | with_reducible rfl | exact pop_is.symm | assumption)
local macro_rules | `(tactic| walk_at "compareOp Eq str str") => `(tactic| (k_here; k_dflt (refine' ak_eq_pop ?f1 ?f2 ?_; (case f1 => omega); (case f2 => omega); k_whole); try dsimp only))
local macro_rules | `(tactic| walk_at "compareOp Eq str str") => `(tactic| (k_here; k_dflt (refine' ak_eq_str_ne ?hx ?hy ?f1 ?f2 ?f3 ?f4 ?f5 ?_; (case hx => walk_at "ak name"); (case hy => walk_at "ak name"); (case f1 => omega); (case f2 => omega); (case f3 => omega); (case f4 => omega); (case f5 => omega); k_whole); try dsimp only))
local macro_rules | `(tactic| walk_at "subscriptTail") => `(tactic| (k_here; (with_reducible show wpAny _ _ (subscriptTail _ _ (Value.ref _) (Value.int _ _)) _ _ _); ktb_letter; k_dflt (first
  | (refine' ak_item_h ?ktbl ?ktbw ?ktb0 ?ktb1 ?_; (case ktbl => ktb_isList); (case ktbw => repeat constructor); (case ktb0 => omega); (case ktb1 => omega))
  | (refine' ak_item_b ?ktbl ?ktbw ?ktb0 ?ktb1 ?_; (case ktbl => ktb_isList); (case ktbw => repeat constructor); (case ktb0 => omega); (case ktb1 => omega))); intro _; try dsimp only))
local macro_rules | `(tactic| walk_at "getMethod ref") => `(tactic| (k_here; (with_reducible show wpAny _ _ (getMethod (Value.ref _) (PySem.Str.ofString "index") _) _ _ _); k_dflt (first
  | (refine' ak_meth PySem.F.slot_list_index PySem.F.type_list_index ?X ?F ?l ?_; (case X => k_asm); (case F => k_asm); (case l => k_is))
  | (refine' ak_methN PySem.F.slot_list_index PySem.F.type_list_index ?N ?m ?_; (case N => k_asm); (case m => k_mem)))))
local macro_rules | `(tactic| walk_at "call builtin:list.index") => `(tactic| (k_here; (with_reducible show wpAny _ _ (call (Value.builtin _) [Value.ref _, Value.str _ _]) _ _ _); k_dflt (first
  | (refine' ak_index_b ?ktbl ?ktbw ?ktb0 ?ktb1 ?_; (case ktbl => ktb_isList); (case ktbw => repeat constructor); (case ktb0 => omega); (case ktb1 => omega))
  | (refine' ak_index_h ?ktbl ?ktbw ?ktbx ?ktb0 ?ktb1 ?_; (case ktbx => walk_at "ak name"); (case ktbl => ktb_isList); (case ktbw => repeat constructor); (case ktb0 => omega); (case ktb1 => omega))); try dsimp only))
local macro_rules | `(tactic| walk_at "compareOp NotIn str ref") => `(tactic| (k_here; k_dflt (refine' ak_notin_b ?ktbl ?ktbw ?ktb0 ?ktb1 ?_; (case ktbl => ktb_isList); (case ktbw => repeat constructor); (case ktb0 => omega); (case ktb1 => omega)); try dsimp only))
local macro_rules | `(tactic| walk_at "binaryOp Mod int int") => `(tactic| (k_here; k_dflt (refine' ak_mod_ii ?f1 ?_; (case f1 => first | decide | omega); k_whole); try dsimp only))
local macro_rules | `(tactic| walk_at "binaryOp FloorDiv int int") => `(tactic| (k_here; k_dflt (refine' ak_div_ii ?f1 ?f2 ?_; (case f1 => first | decide | omega); (case f2 => first | decide | omega); k_whole); try dsimp only))
section
variable {w : World} {loose : List Str} {mean : ExcName → Option Value} {mg mb : Str → Option Value}
theorem greg_jd1 {t1 t2 t3 : Tok} :
   AkTells w loose mean mg mb 3 71 [.int 2012 t1, .int 1 t2, .int 1 t3] (Val1 fun r => ∃ tk, r = .float (hf 4911855) tk) := by
  unfold AkTells
  k_fill
  intro dp un gd cn cs a ccd cl outer A₀ base h₀ L m news s Q E B F X N T hk hd hu hret
  refine wpAny_call ?_
  k_dflt cell_enter
  k_steps
  refine' hret _ [] _ _ ?e1 ?e2 ⟨rfl, ?e3⟩
  case e1 => k_asm
  case e2 => k_asm
  case e3 => exact float_is (by decide)
theorem greg_jd12 {t1 t2 t3 : Tok} :
   AkTells w loose mean mg mb 3 71 [.int 2012 t1, .int 12 t2, .int 1 t3] (Val1 fun r => ∃ tk, r = .float (hf 4912525) tk) := by
  unfold AkTells
  k_fill
  intro dp un gd cn cs a ccd cl outer A₀ base h₀ L m news s Q E B F X N T hk hd hu hret
  refine wpAny_call ?_
  k_dflt cell_enter
  k_steps
  refine' hret _ [] _ _ ?e1 ?e2 ⟨rfl, ?e3⟩
  case e1 => k_asm
  case e2 => k_asm
  case e3 => exact float_is (by decide)
end
section
variable {w : World} {loose : List Str} {mean : ExcName → Option Value} {mg mb : Str → Option Value}
theorem leap_ok {t1 : Tok} :
   AkTells w loose mean mg mb 1 57 [.int 2012 t1] (Val1 fun r => ∃ _tk : Tok, r = .bool true) := by
  unfold AkTells
  k_fill
  intro dp un gd cn cs a ccd cl outer A₀ base h₀ L m news s Q E B F X N T hk hd hu hret
  refine wpAny_call ?_
  k_dflt cell_enter
  k_steps
  refine' hret _ [] _ _ ?e1 ?e2 ⟨rfl, ?e3⟩
  case e1 => k_asm
  case e2 => k_asm
  case e3 => exact ⟨0, rfl⟩
end
end AkHaab

-- contracts, part 6
namespace AkHaab
open PySem PySem.Float64 PySem.W PyProof.Rows PySem.Spec PySem.Calls
-- Gregorian dates: one closed call
local macro_rules | `(tactic| walk_at "ak lit") => `(tactic| first | with_reducible rfl | exact lit_half | exact lit_epoch | exact lit_greg)
local macro_rules | `(tactic| walk_at "binaryOp Sub float int") => `(tactic| (k_here; k_dflt (refine' ak_sub_fi ?hx ?f1 ?f2 ?f3 ?_; (case hx => walk_at "ak lit"); (case f1 => walk_at "ak fit"); (case f2 => walk_at "ak fit"); (case f3 => walk_at "ak fit"); k_whole); try dsimp only))
local macro_rules | `(tactic| walk_at "call builtin:math.floor") => `(tactic| (k_here; k_dflt (first
  | (refine' ak_floor ?hx ?f1 ?f2 ?_; (case hx => walk_at "ak lit"); (case f1 => walk_at "ak fit"); (case f2 => walk_at "ak int"); k_whole)
  | (refine' ak_floor_dv ?f1 ?f2 ?f3 ?f4 ?f5 ?f6 ?_; (case f1 => walk_at "ak fit"); (case f2 => walk_at "ak fit"); (case f3 => walk_at "ak int"); (case f4 => walk_at "ak int"); (case f5 => walk_at "ak int"); (case f6 => walk_at "ak int"); k_whole)
  | (refine' ak_floor_cl (k := 1) ?hd ?_; (case hd => decide +kernel); k_whole)
  | (refine' ak_floor_cl (k := 336) ?hd ?_; (case hd => decide +kernel); k_whole)
  | (refine' ak_floor_cl (k := 502) ?hd ?_; (case hd => decide +kernel); k_whole)
  | (refine' ak_floor_cl (k := 20) ?hd ?_; (case hd => decide +kernel); k_whole)
  | (refine' ak_floor_cl (k := 5) ?hd ?_; (case hd => decide +kernel); k_whole)); try dsimp only))
local macro_rules | `(tactic| walk_at "call ref") => `(tactic| (k_here; (refine wpAny_call ?_); k_dflt (refine' code_def ?k1 ?k2 ?k3 ?k4 ?k5 ?kA ?kF ?kK ?k6 ?k7 ?k8 ?k9 ?kB ?_ ?c2 ?c3 ?c4 ?c5; (case kA => exact rfl); (case kF => exact rfl); (case kK => exact rfl); (case k1 => k_asm); (case k2 => k_asm); (case k3 => k_asm); (case k4 => k_asm); (case k5 => k_asm); (case k6 => k_is); (case k7 => k_is); (case k8 => ktr_room); (case k9 => exact BindsTo.of_eq rfl); (case c5 => decide); (case kB => exact locs rfl); (case c2 => exact rfl); (case c3 => exact rfl); (case c4 => exact rfl); k_whole; intro g' L' h' FG' F' N' B' X' T'; (try dsimp only); (try k_lift B'); (try k_fold))))
local macro_rules | `(tactic| walk_at "compareOp In int ref") => `(tactic| (k_here; k_dflt (refine' in_tuple_ints ?ht ?hi ?_; (case ht => ktb_isTup); (case hi => repeat constructor)); try dsimp only))
local macro_rules | `(tactic| walk_at "binaryOp Mult float int") => `(tactic| (k_here; k_dflt (refine' ak_mul_fi ?hx ?f1 ?f2 ?f3 ?f4 ?f5 ?_; (case hx => walk_at "ak lit"); (case f1 => walk_at "ak fit"); (case f2 => walk_at "ak fit"); (case f3 => walk_at "ak fit"); (case f4 => walk_at "ak int"); (case f5 => walk_at "ak int"); k_whole); try dsimp only))
-- the walk's own lines for floats
local macro_rules | `(tactic| walk_at "ak fit") => `(tactic| (unfold Fit; omega))
local macro_rules | `(tactic| walk_at "ak int") => `(tactic| omega)
local macro_rules | `(tactic| walk_at "ak lit") => `(tactic| first | with_reducible rfl | exact lit_half | exact lit_epoch)
local macro_rules | `(tactic| walk_at "binaryOp Add float int") => `(tactic| (k_here; k_dflt (refine' ak_add_fi ?hx ?f1 ?f2 ?f3 ?_; (case hx => walk_at "ak lit"); (case f1 => walk_at "ak fit"); (case f2 => walk_at "ak fit"); (case f3 => walk_at "ak fit"); k_whole); try dsimp only))
local macro_rules | `(tactic| walk_at "inplaceOp Add float int") => `(tactic| (k_here; k_dflt (refine' ak_iadd_fi ?hx ?f1 ?f2 ?f3 ?_; (case hx => walk_at "ak lit"); (case f1 => walk_at "ak fit"); (case f2 => walk_at "ak fit"); (case f3 => walk_at "ak fit"); k_whole); try dsimp only))
local macro_rules | `(tactic| walk_at "binaryOp Add int float") => `(tactic| (k_here; k_dflt (refine' ak_add_if ?hx ?f1 ?f2 ?f3 ?_; (case hx => walk_at "ak lit"); (case f1 => walk_at "ak fit"); (case f2 => walk_at "ak fit"); (case f3 => walk_at "ak fit"); k_whole); try dsimp only))
local macro_rules | `(tactic| walk_at "binaryOp Sub float float") => `(tactic| (k_here; k_dflt (refine' ak_sub_ff ?hx ?hy ?f1 ?f2 ?f3 ?_; (case hx => walk_at "ak lit"); (case hy => walk_at "ak lit"); (case f1 => walk_at "ak fit"); (case f2 => walk_at "ak fit"); (case f3 => walk_at "ak fit"); k_whole); try dsimp only))
local macro_rules | `(tactic| walk_at "binaryOp Mod float int") => `(tactic| (k_here; k_dflt (refine' ak_mod_fi ?hx ?f1 ?f2 ?f3 ?f4 ?_; (case hx => walk_at "ak lit"); (case f1 => walk_at "ak fit"); (case f2 => walk_at "ak fit"); (case f3 => walk_at "ak int"); (case f4 => walk_at "ak int"); k_whole); try dsimp only))
local macro_rules | `(tactic| walk_at "binaryOp Div float int") => `(tactic| (k_here; k_dflt (refine' ak_div_fi ?hx ?f1 ?f2 ?_; (case hx => walk_at "ak lit"); (case f1 => walk_at "ak fit"); (case f2 => walk_at "ak int"); k_whole); try dsimp only))
local macro_rules | `(tactic| walk_at "call builtin:math.trunc") => `(tactic| (k_here; k_dflt (first
  | (refine' ak_trunc ?hx ?f1 ?f2 ?_; (case hx => walk_at "ak lit"); (case f1 => walk_at "ak fit"); (case f2 => walk_at "ak int"); k_whole)
  | (refine' ak_trunc_dv ?f1 ?f2 ?f3 ?f4 ?f5 ?f6 ?_; (case f1 => walk_at "ak fit"); (case f2 => walk_at "ak fit"); (case f3 => walk_at "ak int"); (case f4 => walk_at "ak int"); (case f5 => walk_at "ak int"); (case f6 => walk_at "ak int"); k_whole)); try dsimp only))
local macro_rules | `(tactic| walk_at "call type:int") => `(tactic| (k_here; (with_reducible show wpAny _ _ (call _ [Value.float _ _]) _ _ _); k_dflt (refine' ak_int ?hx ?f1 ?f2 ?_; (case hx => walk_at "ak lit"); (case f1 => walk_at "ak fit"); (case f2 => walk_at "ak int"); k_whole); try dsimp only))
local macro_rules | `(tactic| walk_at "compareOp Lt float int") => `(tactic| (k_here; k_dflt (refine' ak_lt_fi ?hx ?f1 ?_; (case hx => walk_at "ak lit"); (case f1 => walk_at "ak fit"); k_whole); try dsimp only))
local macro_rules | `(tactic| walk_at "compareOp Lt float float") => `(tactic| (k_here; k_dflt (refine' ak_lt_ff ?hx ?hy ?f1 ?f2 ?_; (case hx => walk_at "ak lit"); (case hy => walk_at "ak lit"); (case f1 => walk_at "ak fit"); (case f2 => walk_at "ak fit"); k_whole); try dsimp only))
local macro_rules | `(tactic| walk_at "compareOp NotEq float float") => `(tactic| (k_here; k_dflt (refine' ak_ne_ff ?hx ?hy ?f1 ?f2 ?_; (case hx => walk_at "ak lit"); (case hy => walk_at "ak lit"); (case f1 => walk_at "ak fit"); (case f2 => walk_at "ak fit"); k_whole); try dsimp only))
-- entering a def's contract
local macro_rules | `(tactic| walk_at "ak enter") => `(tactic| (unfold AkTells; k_fill; intro dp un gd cn cs a ccd cl outer A₀ base h₀ L m news s Q E B F X N T hk hd hu hret; refine wpAny_call ?_; k_dflt cell_enter))
-- calls by contracts
local macro_rules | `(tactic| walk_at "ak call") => `(tactic| ((case k1 => k_asm); (case k2 => k_asm); (case k3 => k_asm); (case k4 => k_asm); (case k5 => k_asm); (case kK => first | exact rfl | assumption); (case kd => ktr_room); (case ku => ktr_units)))
local macro_rules | `(tactic| walk_at "ak val") => `(tactic| (intro t9 h' tk' F' N'; (try dsimp only); (try k_sweep)))
local macro_rules | `(tactic| walk_at "ak two") => `(tactic| (intro D9 t9 u9 h' tk' F' N'; (try dsimp only); (try k_sweep)))
local macro_rules | `(tactic| walk_at "ak five") => `(tactic| (intro D9 t9 u9 v9 x9 y9 h' tk' F' N'; (try dsimp only); (try k_sweep)))
local macro_rules | `(tactic| walk_at "call ref") => `(tactic| (k_here; k_dflt (first
  | (refine' ak_useV (amod13_ok ?p1 ?p2) ?k1 ?k2 ?k3 ?k4 ?k5 ?kK ?kd ?ku ?_; (walk_at "ak call"); (case p1 => omega); (case p2 => omega); walk_at "ak val")
  | (refine' ak_useV (amod20_ok ?p1 ?p2) ?k1 ?k2 ?k3 ?k4 ?k5 ?kK ?kd ?ku ?_; (walk_at "ak call"); (case p1 => omega); (case p2 => omega); walk_at "ak val")
  | (refine' ak_useV (to_jd_mayan_ok ?p1 ?p2 ?p3 ?p4 ?p5) ?k1 ?k2 ?k3 ?k4 ?k5 ?kK ?kd ?ku ?_; (walk_at "ak call"); (case p1 => omega); (case p2 => omega); (case p3 => omega); (case p4 => omega); (case p5 => omega); walk_at "ak val")
  | (refine' ak_use5 (from_jd_mayan_ok ?p1 ?p2) ?k1 ?k2 ?k3 ?k4 ?k5 ?kK ?kd ?ku ?_; (walk_at "ak call"); (case p1 => omega); (case p2 => omega); walk_at "ak five")
  | (refine' ak_use2 (to_haab_ok ?p1 ?p2) ?k1 ?k2 ?k3 ?k4 ?k5 ?kK ?kd ?ku ?_; (walk_at "ak call"); (case p1 => omega); (case p2 => omega); walk_at "ak two"))))
-- names
local macro_rules | `(tactic| walk_at "ak name") => `(tactic| first | with_reducible rfl | exact pop_is.symm | assumption)
local macro_rules | `(tactic| walk_at "compareOp Eq str str") => `(tactic| (k_here; k_dflt (refine' ak_eq_pop ?f1 ?f2 ?_; (case f1 => omega); (case f2 => omega); k_whole); try dsimp only))
local macro_rules | `(tactic| walk_at "compareOp Eq str str") => `(tactic| (k_here; k_dflt (refine' ak_eq_str_ne ?hx ?hy ?f1 ?f2 ?f3 ?f4 ?f5 ?_; (case hx => walk_at "ak name"); (case hy => walk_at "ak name"); (case f1 => omega); (case f2 => omega); (case f3 => omega); (case f4 => omega); (case f5 => omega); k_whole); try dsimp only))
local macro_rules | `(tactic| walk_at "subscriptTail") => `(tactic| (k_here; (with_reducible show wpAny _ _ (subscriptTail _ _ (Value.ref _) (Value.int _ _)) _ _ _); ktb_letter; k_dflt (first
  | (refine' ak_item_h ?ktbl ?ktbw ?ktb0 ?ktb1 ?_; (case ktbl => ktb_isList); (case ktbw => repeat constructor); (case ktb0 => omega); (case ktb1 => omega))
  | (refine' ak_item_b ?ktbl ?ktbw ?ktb0 ?ktb1 ?_; (case ktbl => ktb_isList); (case ktbw => repeat constructor); (case ktb0 => omega); (case ktb1 => omega))); intro _; try dsimp only))
local macro_rules | `(tactic| walk_at "getMethod ref") => `(tactic| (k_here; (with_reducible show wpAny _ _ (getMethod (Value.ref _) (PySem.Str.ofString "index") _) _ _ _); k_dflt (first
  | (refine' ak_meth PySem.F.slot_list_index PySem.F.type_list_index ?X ?F ?l ?_; (case X => k_asm); (case F => k_asm); (case l => k_is))
  | (refine' ak_methN PySem.F.slot_list_index PySem.F.type_list_index ?N ?m ?_; (case N => k_asm); (case m => k_mem)))))
local macro_rules | `(tactic| walk_at "call builtin:list.index") => `(tactic| (k_here; (with_reducible show wpAny _ _ (call (Value.builtin _) [Value.ref _, Value.str _ _]) _ _ _); k_dflt (first
  | (refine' ak_index_b ?ktbl ?ktbw ?ktb0 ?ktb1 ?_; (case ktbl => ktb_isList); (case ktbw => repeat constructor); (case ktb0 => omega); (case ktb1 => omega))
  | (refine' ak_index_h ?ktbl ?ktbw ?ktbx ?ktb0 ?ktb1 ?_; (case ktbx => walk_at "ak name"); (case ktbl => ktb_isList); (case ktbw => repeat constructor); (case ktb0 => omega); (case ktb1 => omega))); try dsimp only))
local macro_rules | `(tactic| walk_at "compareOp NotIn str ref") => `(tactic| (k_here; k_dflt (refine' ak_notin_b ?ktbl ?ktbw ?ktb0 ?ktb1 ?_; (case ktbl => ktb_isList); (case ktbw => repeat constructor); (case ktb0 => omega); (case ktb1 => omega)); try dsimp only))
local macro_rules | `(tactic| walk_at "binaryOp Mod int int") => `(tactic| (k_here; k_dflt (refine' ak_mod_ii ?f1 ?_; (case f1 => first | decide | omega); k_whole); try dsimp only))
local macro_rules | `(tactic| walk_at "binaryOp FloorDiv int int") => `(tactic| (k_here; k_dflt (refine' ak_div_ii ?f1 ?f2 ?_; (case f1 => first | decide | omega); (case f2 => first | decide | omega); k_whole); try dsimp only))
local macro_rules | `(tactic| walk_at "call ref") => `(tactic| (k_here; k_dflt (first
  | (refine' ak_useV greg_jd1 ?k1 ?k2 ?k3 ?k4 ?k5 ?kK ?kd ?ku ?_; (walk_at "ak call"); walk_at "ak val")
  | (refine' ak_useV leap_ok ?k1 ?k2 ?k3 ?k4 ?k5 ?kK ?kd ?ku ?_; (walk_at "ak call"); walk_at "ak val")
  | (refine' ak_useV greg_jd12 ?k1 ?k2 ?k3 ?k4 ?k5 ?kK ?kd ?ku ?_; (walk_at "ak call"); walk_at "ak val"))))
local macro_rules | `(tactic| walk_at "call ref") => `(tactic| (k_here; dsimp only [Int.reduceAdd, Int.reduceMul, Int.reduceSub, Int.reduceDiv, Int.reduceMod, Int.reduceNeg]))
local macro_rules | `(tactic| walk_at "storeName") => `(tactic| (k_here; dsimp only [Int.reduceAdd, Int.reduceMul, Int.reduceSub, Int.reduceDiv, Int.reduceMod, Int.reduceNeg]))
local macro_rules | `(tactic| walk_at "eval Call") => `(tactic| (k_here; refine Call_ ?_))
section
variable {w : World} {loose : List Str} {mean : ExcName → Option Value} {mg mb : Str → Option Value}
theorem greg_ok {t1 t2 t3 t4 t5 : Tok} :
   AkTells w loose mean mg mb 6 101 [.int 13 t1, .int 0 t2, .int 0 t3, .int 0 t4, .int 0 t5] (TupOf fun vs => ∃ u1 u2 u3, vs = [.int 2012 u1, .int 12 u2, .int 21 u3]) := by
  unfold AkTells
  k_fill
  intro dp un gd cn cs a ccd cl outer A₀ base h₀ L m news s Q E B F X N T hk hd hu hret
  refine wpAny_call ?_
  k_dflt cell_enter
  k_steps
  refine' hret _ [_] _ _ ?e1 ?e2 ⟨_, _, rfl, ?e4, ?e3⟩
  case e1 => k_asm
  case e2 => k_asm
  case e4 => exact rfl
  case e3 => exact ⟨_, _, _, rfl⟩
end
end AkHaab

-- the cuts of the law
namespace AkHaab
open PySem PySem.Float64 PySem.W PyProof.Rows PySem.Spec PySem.Calls

section
variable {prog : Program} {w : World} {A : Around} {E : Value → Shared → Prop} {s : Shared} {a b : Int} {x y : UInt64} {t u : Tok} {Q : Value → Shared → Prop}
theorem ak_lt_tt (hx : x = hf a) (hy : y = hf b) (ha : Fit a) (hb : Fit b) (hlt : a < b) (h : Q (.bool true) s) : wpAny (model prog w) A (compareOp .Lt (.float x t) (.float y u)) Q E s :=
  ak_lt_ff hx hy ha hb (by rw [decide_eq_true hlt]; exact h)
theorem ak_ne_same (hx : x = hf a) (hy : y = hf b) (ha : Fit a) (hb : Fit b) (hab : a = b) (h : Q (.bool false) s) : wpAny (model prog w) A (compareOp .NotEq (.float x t) (.float y u)) Q E s :=
  ak_ne_ff hx hy ha hb (by subst hab; rw [bne_self_eq_false]; exact h)
theorem ak_ne_str {x y : Str} (hxy : x = y) (h : Q (.bool false) s) : wpAny (model prog w) A (compareOp .NotEq (.str x t) (.str y u)) Q E s :=
  ne_str (by subst hxy; rw [bne_self_eq_false]; exact h)
end
theorem bears_len : ∀ a : Fin 4, (bearL.getD a.1 Str.empty).length ≤ 100 := by decide +kernel
theorem bName_len (i : Int) : (bName i).length ≤ 100 := by
  rw [← bName_def]
  by_cases h : i.toNat < 4
  · exact bears_len ⟨i.toNat, h⟩
  · rw [List.getD_eq_getElem?_getD, List.getElem?_eq_none (Nat.le_of_not_lt h)]; decide +kernel
section
variable {prog : Program} {w : World} {A : Around} {E : Value → Shared → Prop} {s : Shared} {a b : Int} {t u : Tok} {Q : Value → Shared → Prop}
theorem ak_add_t1 (ha : 0 ≤ a ∧ a < 1000) (h : ∀ t' tk, Q (.str (Str.ofString (toString a) ++ Str.ofString " " ++ bName b) t') { s with toks := tk }) :
    wpAny (model prog w) A (binaryOp .Add (.str (Str.ofString (toString a) ++ Str.ofString " ") t) (.str (bName b) u)) Q E s := by
  refine add_str h ?_
  have h1 := toString_length_le (v := a) (k := 10) (by omega) (by decide) (by omega)
  have h2 := bName_len b
  have h3 : (Str.ofString " ").length = 1 := by decide +kernel
  rw [PySem.Str.length_append, sizeLine_eq]; omega
theorem ak_add_t2 (ha : 0 ≤ a ∧ a < 1000) (h : ∀ t' tk, Q (.str (Str.ofString (toString a) ++ Str.ofString " " ++ bName b ++ Str.ofString " 1 Pop") t') { s with toks := tk }) :
    wpAny (model prog w) A (binaryOp .Add (.str (Str.ofString (toString a) ++ Str.ofString " " ++ bName b) t) (.str (Str.ofString " 1 Pop") u)) Q E s := by
  refine add_str h ?_
  have h1 := toString_length_le (v := a) (k := 10) (by omega) (by decide) (by omega)
  have h2 := bName_len b
  have h3 : (Str.ofString " ").length = 1 := by decide +kernel
  have h4 : (Str.ofString " 1 Pop").length = 6 := by decide +kernel
  rw [PySem.Str.length_append, PySem.Str.length_append, sizeLine_eq]; omega
end
theorem bName_of {i j : Int} (h : i = j) : bName i = bName j := by rw [h]
theorem hName_congr {i j : Int} (h : i = j) : hName i = hName j := by rw [h]
theorem text_is {A B A' B' : Int} (hA : A = A') (hB : B = B') : Str.ofString (toString A) ++ Str.ofString " " ++ bName B ++ Str.ofString " 1 Pop" = Str.ofString (toString A') ++ Str.ofString " " ++ bName B' ++ Str.ofString " 1 Pop" := by rw [hA, hB]
theorem nums_shape {f : Int → Int} {ns : List Int} {ws : List Value} (h : IntsAre ws (List.map f (List.take 3 ns) ++ [0, 0, 0])) (hb : ∀ k, -10000000 < f k ∧ f k < 10000000) :
    ∃ a0 a1 a2 t0 t1 t2 wr, ws = .int a0 t0 :: .int a1 t1 :: .int a2 t2 :: wr ∧ wr.length ≤ 3 ∧ (-10000000 < a0 ∧ a0 < 10000000) ∧ (-10000000 < a1 ∧ a1 < 10000000) ∧ (-10000000 < a2 ∧ a2 < 10000000) := by
  have hlen := h.length
  have hl3 : (List.map f (List.take 3 ns) ++ [0, 0, 0]).length ≤ 6 := by
    rw [List.length_append, List.length_map, List.length_take]
    have : ([0, 0, 0] : List Int).length = 3 := rfl
    omega
  obtain ⟨xs, hxs⟩ : ∃ xs, xs = List.map f (List.take 3 ns) ++ [0, 0, 0] := ⟨_, rfl⟩
  have hall : ∀ x ∈ xs, -10000000 < x ∧ x < 10000000 := by
    intro x hx
    rw [hxs] at hx
    rcases List.mem_append.mp hx with hx | hx
    · obtain ⟨k, _, rfl⟩ := List.mem_map.mp hx
      exact hb k
    · have : x = 0 := by simpa using hx
      omega
  have h3 : 3 ≤ xs.length := by
    rw [hxs, List.length_append]
    have : ([0, 0, 0] : List Int).length = 3 := rfl
    omega
  rw [← hxs] at h hl3
  clear hxs hb
  cases h with
  | nil => simp at h3
  | cons a0 t0 h =>
    cases h with
    | nil => simp at h3
    | cons a1 t1 h =>
      cases h with
      | nil => simp at h3
      | cons a2 t2 h =>
        have hl := h.length
        simp only [List.length_cons] at hl3
        exact ⟨a0, a1, a2, t0, t1, t2, _, rfl, by omega, hall _ (.head _), hall _ (.tail _ (.head _)), hall _ (.tail _ (.tail _ (.head _)))⟩
def Done (R : Shared → Prop) (f : Flow) (s : Shared) : Prop := f = .next ∧ R s
theorem cut_stmt {M : Model} {A : Around} {E : Value → Shared → Prop} {s : Shared} {env : Env} {st : Stmt} {rest : List Stmt} {Q : Flow → Shared → Prop} (R : Shared → Prop) (h1 : wpAny M A (exec st env) (Done R) E s)
    (h2 : ∀ s', R s' → wpAny M A (execs rest env) Q E s') : wpAny M A (execs (st :: rest) env) Q E s :=
  wpAny_execs_cons (wpAny_mono h1 (fun f s' h => by obtain ⟨rfl, hr⟩ := h; exact h2 s' hr) fun _ _ x => x)
/-- behind «if it is Pop: start += 20» -/
def MidStart (h₀ : Heap) (L : Addr) (m : Str → Option Value) (news : List (Addr × Obj)) (s s' : Shared) : Prop :=
  ∃ (x : Int) (t : Tok) (h' : Heap) (tk : Nat), s' = { s with heap := h', toks := tk } ∧ (1168565 ≤ x ∧ x ≤ 21168700) ∧ x % 2 = 1 ∧ 20 ≤ ((x - 1168565) / 2 + 348) % 365 ∧ Fr h₀ L h' (fun y => if y = Str.ofString "start" then some (.float (hf x) t) else m y) ∧ News h₀ L h' news
theorem cut_start {M : Model} {A : Around} {E : Value → Shared → Prop} {s : Shared} {env : Env} {st : Stmt} {rest : List Stmt} {Q : Flow → Shared → Prop} {h₀ : Heap} {L : Addr} {m : Str → Option Value} {news : List (Addr × Obj)} (_ : Fr h₀ L s.heap m) (_ : News h₀ L s.heap news)
    (h1 : wpAny M A (exec st env) (Done (MidStart h₀ L m news s)) E s)
    (h2 : ∀ (x : Int) (t : Tok) (h' : Heap) (tk : Nat), (1168565 ≤ x ∧ x ≤ 21168700) → x % 2 = 1 → 20 ≤ ((x - 1168565) / 2 + 348) % 365 → Fr h₀ L h' (fun y => if y = Str.ofString "start" then some (.float (hf x) t) else m y) → News h₀ L h' news →
      wpAny M A (execs rest env) Q E { s with heap := h', toks := tk }) : wpAny M A (execs (st :: rest) env) Q E s :=
  cut_stmt _ h1 fun s' hs => by
    obtain ⟨x, t, h', tk, e, a, b, c, F, N⟩ := hs
    subst e
    exact h2 x t h' tk a b c F N
theorem mid_start {h₀ h' : Heap} {L : Addr} {m m' : Str → Option Value} {news : List (Addr × Obj)} {s : Shared} {x : Int} {t : Tok} {tk : Nat} {news' : List (Addr × Obj)}
    (F' : Fr h₀ L h' m') (N' : News h₀ L h' news') (hm : m' = fun y => if y = Str.ofString "start" then some (.float (hf x) t) else m y) (hn : ∀ p ∈ news, p ∈ news') (h1 : 1168565 ≤ x ∧ x ≤ 21168700) (h2 : x % 2 = 1) (h3 : 20 ≤ ((x - 1168565) / 2 + 348) % 365) :
    Done (MidStart h₀ L m news s) .next { s with heap := h', toks := tk } := ⟨rfl, x, t, h', tk, rfl, h1, h2, h3, hm ▸ F', cb_drop N' hn⟩

/-- the law's frame, as far as it is asked later -/
abbrev lawMap (D : Addr) (n : Int) (t1 t2 t3 : Tok) (mr : Str → Option Value) : Str → Option Value := fun y =>
  if y = Str.ofString "numbers" then some (.ref D) else if y = Str.ofString "new" then some (.float (hf (1168565 + 2 * n)) t1) else if y = Str.ofString "number" then some (.int ((n + 3) % 13 + 1) t2) else if y = Str.ofString "name" then some (.str (bName ((n + 19) % 20 / 5)) t3) else mr y
theorem lawMap_of {D : Addr} {n : Int} {t1 t2 t3 : Tok} {m : Str → Option Value} (e1 : m (Str.ofString "numbers") = some (.ref D)) (e2 : m (Str.ofString "new") = some (.float (hf (1168565 + 2 * n)) t1))
    (e3 : m (Str.ofString "number") = some (.int ((n + 3) % 13 + 1) t2)) (e4 : m (Str.ofString "name") = some (.str (bName ((n + 19) % 20 / 5)) t3)) : lawMap D n t1 t2 t3 m = m := by
  funext y
  unfold lawMap
  by_cases h1 : y = Str.ofString "numbers"
  · rw [if_pos h1, h1, e1]
  · rw [if_neg h1]
    by_cases h2 : y = Str.ofString "new"
    · rw [if_pos h2, h2, e2]
    · rw [if_neg h2]
      by_cases h3 : y = Str.ofString "number"
      · rw [if_pos h3, h3, e3]
      · rw [if_neg h3]
        by_cases h4 : y = Str.ofString "name"
        · rw [if_pos h4, h4, e4]
        · rw [if_neg h4]
theorem news_one {h₀ h : Heap} {L D : Addr} {o : Obj} {news : List (Addr × Obj)} (N : News h₀ L h news) (hD : (D, o) ∈ news) : News h₀ L h [(D, o)] := cb_drop N fun p hp => by
  rw [List.mem_singleton.mp hp]; exact hD
/-- ahead of the loops -/
theorem mid_loop {h₀ h : Heap} {L D : Addr} {o : Obj} {m : Str → Option Value} {news : List (Addr × Obj)} {a c j b : Int} {t1 t2 t3 t4 : Tok} (F : Fr h₀ L h m) (N : News h₀ L h news) (e1 : m (Str.ofString "numbers") = some (.ref D)) (e2 : m (Str.ofString "new") = some (.float (hf a) t1))
    (e3 : m (Str.ofString "number") = some (.int c t2)) (e4 : m (Str.ofString "name") = some (.str (bName j) t3)) (e5 : m (Str.ofString "day") = some (.float (hf b) t4)) (hD : (D, o) ∈ news)
    (ha : (1168565 ≤ a ∧ a ≤ 30000000) ∧ a % 2 = 1 ∧ ((a - 1168565) / 2 + 348) % 365 = 1) (hc : c = ((a - 1168565) / 2 + 3) % 13 + 1) (hj : j = ((a - 1168565) / 2 + 19) % 20 / 5) (hb : b = a) :
    ∃ (n : Int) (mr : Str → Option Value), (0 ≤ n ∧ n ≤ 15000000) ∧ (n + 348) % 365 = 1 ∧ n % 5 = 3 ∧ Fr h₀ L h (lawMap D n t1 t2 t3 fun y => if y = Str.ofString "day" then some (.float (hf (1168565 + 2 * n)) t4) else mr y) ∧ News h₀ L h [(D, o)] := by
  obtain ⟨n, hn⟩ : ∃ n, n = (a - 1168565) / 2 := ⟨_, rfl⟩
  have ha2 : a = 1168565 + 2 * n := by omega
  rw [← hn] at hc hj ha
  subst hb hc hj
  rw [ha2] at e2 e5
  refine ⟨n, m, by omega, ha.2.2, by omega, ?_, news_one N hD⟩
  have e6 : (fun y => if y = Str.ofString "day" then some (Value.float (hf (1168565 + 2 * n)) t4) else m y) = m := by
    funext y
    by_cases h1 : y = Str.ofString "day"
    · rw [if_pos h1, h1, e5]
    · rw [if_neg h1]
  rw [e6, lawMap_of e1 e2 e3 e4]
  exact F
def MidL (h₀ : Heap) (L D : Addr) (o : Obj) (n : Int) (s s' : Shared) : Prop :=
  ∃ (t1 t2 t3 : Tok) (mr : Str → Option Value) (h' : Heap) (tk : Nat), s' = { s with heap := h', toks := tk } ∧ Fr h₀ L h' (lawMap D n t1 t2 t3 mr) ∧ News h₀ L h' [(D, o)]
theorem cut_loop {M : Model} {A : Around} {E : Value → Shared → Prop} {s : Shared} {env : Env} {st : Stmt} {rest : List Stmt} {Q : Flow → Shared → Prop} {h₀ : Heap} {L D : Addr} {o : Obj} {n : Int} {t1 t2 t3 : Tok} {mr : Str → Option Value} (_ : Fr h₀ L s.heap (lawMap D n t1 t2 t3 mr)) (_ : News h₀ L s.heap [(D, o)])
    (h1 : wpAny M A (exec st env) (Done (MidL h₀ L D o n s)) E s)
    (h2 : ∀ (t1 t2 t3 : Tok) (mr : Str → Option Value) (h' : Heap) (tk : Nat), Fr h₀ L h' (lawMap D n t1 t2 t3 mr) → News h₀ L h' [(D, o)] → wpAny M A (execs rest env) Q E { s with heap := h', toks := tk }) : wpAny M A (execs (st :: rest) env) Q E s :=
  cut_stmt _ h1 fun s' hs => by
    obtain ⟨t1, t2, t3, mr, h', tk, e, F, N⟩ := hs
    subst e
    exact h2 t1 t2 t3 mr h' tk F N
theorem mid_end {h₀ h' : Heap} {L D : Addr} {o : Obj} {n : Int} {s : Shared} {t1 t2 t3 : Tok} {tk : Nat} {m' : Str → Option Value} {news' : List (Addr × Obj)} (F' : Fr h₀ L h' m') (N' : News h₀ L h' news')
    (e1 : m' (Str.ofString "numbers") = some (.ref D)) (e2 : m' (Str.ofString "new") = some (.float (hf (1168565 + 2 * n)) t1)) (e3 : m' (Str.ofString "number") = some (.int ((n + 3) % 13 + 1) t2)) (e4 : m' (Str.ofString "name") = some (.str (bName ((n + 19) % 20 / 5)) t3))
    (hD : (D, o) ∈ news') : Done (MidL h₀ L D o n s) .next { s with heap := h', toks := tk } :=
  ⟨rfl, t1, t2, t3, m', h', tk, rfl, by rw [lawMap_of e1 e2 e3 e4]; exact F', news_one N' hD⟩

abbrev dayMap (n k : Int) (t : Tok) (mr : Str → Option Value) : Str → Option Value := fun y => if y = Str.ofString "day" then some (.float (hf (1168565 + 2 * (n + 365 * k))) t) else mr y
def MidT (h₀ : Heap) (L D : Addr) (o : Obj) (n k : Int) (own : List (Addr × Obj)) (s s' : Shared) : Prop :=
  ∃ (t1 t2 t3 t4 : Tok) (mr : Str → Option Value) (h' : Heap) (tk : Nat), s' = { s with heap := h', toks := tk } ∧ Fr h₀ L h' (lawMap D n t1 t2 t3 (dayMap n k t4 mr)) ∧ News h₀ L h' ((D, o) :: own)
theorem mid_turn {h₀ h' : Heap} {L D : Addr} {o : Obj} {n k b : Int} {own : List (Addr × Obj)} {s : Shared} {t1 t2 t3 t4 : Tok} {tk : Nat} {m' : Str → Option Value} {news' : List (Addr × Obj)} (F' : Fr h₀ L h' m') (N' : News h₀ L h' news')
    (e1 : m' (Str.ofString "numbers") = some (.ref D)) (e2 : m' (Str.ofString "new") = some (.float (hf (1168565 + 2 * n)) t1)) (e3 : m' (Str.ofString "number") = some (.int ((n + 3) % 13 + 1) t2)) (e4 : m' (Str.ofString "name") = some (.str (bName ((n + 19) % 20 / 5)) t3))
    (e5 : m' (Str.ofString "day") = some (.float (hf b) t4)) (hb : b = 1168565 + 2 * (n + 365 * k)) (hD : ∀ p ∈ (D, o) :: own, p ∈ news') : Done (MidT h₀ L D o n k own s) .next { s with heap := h', toks := tk } := by
  subst hb
  refine ⟨rfl, t1, t2, t3, t4, m', h', tk, rfl, ?_, cb_drop N' hD⟩
  have e6 : dayMap n k t4 m' = m' := by
    funext y
    unfold dayMap
    by_cases h1 : y = Str.ofString "day"
    · rw [if_pos h1, h1, e5]
    · rw [if_neg h1]
  rw [e6, lawMap_of e1 e2 e3 e4]
  exact F'
section
variable {prog : Program} {w : World} {A : Around} {E : Value → Shared → Prop} {s : Shared} {env : Env} {h₀ : Heap} {body : List Stmt} {Q : Flow → Shared → Prop} {D r : Addr} {o : Obj} {n : Int} {t1 t2 t3 t4 t₀ u₀ v₀ : Tok} {mr : Str → Option Value}
theorem iter_law1 {news : List (Addr × Obj)} (hh : A.handled = none) (hr : IsRange s.heap r 1 5 1 t₀ u₀ v₀) (F : Fr h₀ env.locals s.heap (lawMap D n t1 t2 t3 fun y => if y = Str.ofString "day" then some (.float (hf (1168565 + 2 * n)) t4) else mr y)) (N : News h₀ env.locals s.heap news) (hD : (D, o) ∈ news)
    (turn : ∀ (k : Int) (t t1 t2 t3 t4 : Tok) (mr : Str → Option Value) (h : Heap) (tk : Nat) (own : List (Addr × Obj)), (0 ≤ k ∧ k < 4) → Fr h₀ env.locals h (fun y => if y = Str.ofString "year" then some (.int (k + 1) t) else lawMap D n t1 t2 t3 (dayMap n k t4 mr) y) → News h₀ env.locals h ((D, o) :: own) →
      wpAny (model prog w) A (execs body env) (Done (MidT h₀ env.locals D o n (k + 1) own { s with heap := h, toks := tk })) E { s with heap := h, toks := tk })
    (done : ∀ (t1 t2 t3 t4 : Tok) (mr : Str → Option Value) (h : Heap) (tk : Nat), Fr h₀ env.locals h (lawMap D n t1 t2 t3 (dayMap n 4 t4 mr)) → News h₀ env.locals h [(D, o)] → Q .next { s with heap := h, toks := tk }) :
    wpAny (model prog w) A (pyIter (.ref r)) (fun it s₂ => LoopAtV prog w A h₀ env (Str.ofString "year") body Q E it s₂) E s := by
  refine wpAny_pyIter_range hr (by decide) ?_
  have W : Walks prog w A s.heap.objs.size [s.heap.objs.size] [s.heap.objs.size] 4 (fun i v => i < 4 ∧ ∃ t, v = .int (1 + i * 1) t)
      (fun i h => IsRangeIter h s.heap.objs.size (1 + (i : Nat) * 1) (((4 : Nat) : Int) - (i : Nat)) 1) := (Walks.range hh _ 1 1 4).bound
  have N1 := news_one N hD
  have hn4 : Builtin.Range.rangeSize 1 5 1 = ((4 : Nat) : Int) := by decide
  refine loop_invN (fun i m nx => nx = [(D, o)] ∧ ∃ t1 t2 t3 t4 mr, m = lawMap D n t1 t2 t3 (dayMap n (i : Nat) t4 mr)) W ?_ ?_ ?_ ?_ (by show IsRangeIter _ _ _ _ _; rw [hn4]; simpa using Heap.get?_push_size _ rfl) (F.push _) (fun p hp => ⟨Heap.get?_push_of_some _ (N1 p hp).1, (N1 p hp).2⟩) ⟨rfl, t1, t2, t3, t4, mr, ?_⟩ ?_ ?_
  · intro hm
    exact absurd F.ns.lt ((List.mem_singleton.mp hm) ▸ Nat.lt_irrefl _)
  · intro b hb
    rw [List.mem_singleton.mp hb]
    exact next_is_new F
  · intro p hp hI
    exact absurd (Heap.lt_size (N1 p hp).1) ((List.mem_singleton.mp hI) ▸ Nat.lt_irrefl _)
  · intro p hp hI
    exact absurd (Heap.lt_size (N1 p hp).1) ((List.mem_singleton.mp hI) ▸ Nat.lt_irrefl _)
  · have e : (1168565 + 2 * (n + 365 * ((0 : Nat) : Int))) = 1168565 + 2 * n := by omega
    unfold dayMap
    rw [e]
  · rintro i v m₁ news₁ h tk own hin ⟨_, t, rfl⟩ _ hoff ⟨rfl, t1, t2, t3, t4, mr, rfl⟩ F₁ N₁
    have e : (1 + (i : Int) * 1) = (i : Int) + 1 := by omega
    rw [e] at F₁
    refine wpAny_mono (turn i t t1 t2 t3 t4 mr h tk own (by omega) F₁ N₁) (fun f s₂ p => ?_) fun _ _ e => e
    obtain ⟨rfl, t1', t2', t3', t4', mr', h', tk', e2, F', N'⟩ := p
    refine ⟨h', tk', _, _, [(D, o)], e2, F', N', fun p hp => ?_, fun p hp => .tail _ hp, rfl, rfl, t1', t2', t3', t4', mr', ?_⟩
    · rw [List.mem_singleton.mp hp]; exact .head _
    · have e3 : ((i + 1 : Nat) : Int) = (i : Int) + 1 := by omega
      rw [e3]
  · rintro m₁ news₁ h tk ⟨rfl, t1, t2, t3, t4, mr, rfl⟩ F₁ N₁
    exact done t1 t2 t3 t4 mr h tk F₁ N₁
end
end AkHaab

-- zip of two tuples
namespace AkHaab
open PySem PySem.Float64 PySem.W PyProof.Rows PySem.Spec PySem.Calls

/-- an iterator i upon the tuple l, k of whose items xs are taken -/
def TupAt (i l : Addr) (xs : Array Value) (k : Nat) (h : Heap) : Prop := h.IsTupleIter i l k ∧ h.IsTuple l xs
theorem TupAt.keep {i l : Addr} {xs : Array Value} {k : Nat} {h h' : Heap} (x : TupAt i l xs k h) (e1 : ∀ o, h.get? i = some o → h'.get? i = some o) (e2 : ∀ o, h.get? l = some o → h'.get? l = some o) : TupAt i l xs k h' :=
  ⟨x.1.at e1, x.2.at e2⟩
theorem TupAt.but {i l b : Addr} {xs : Array Value} {k : Nat} {h h' : Heap} (x : TupAt i l xs k h) (hs : Heap.ExtBut b h h') (h1 : i ≠ b) (h2 : l ≠ b) : TupAt i l xs k h' := x.keep (fun o e => hs _ o h1 e) (fun o e => hs _ o h2 e)

section
variable {prog : Program} {w : World} {A : Around} {E : Value → Shared → Prop} {s : Shared}
theorem tup_step {i l : Addr} {xs : Array Value} {k : Nat} {Q : Value → Shared → Prop} (hh : A.handled = none) (hT : TupAt i l xs k s.heap) (hil : l ≠ i)
    (hQ : ∀ x h', xs[k]? = some x → TupAt i l xs (k + 1) h' → Heap.SameBut i s.heap h' → Q x { s with heap := h' })
    (hE : xs[k]? = none → ∀ h' e, Heap.ExtBut i s.heap h' → (∃ o, h'.get? e = some o ∧ o.cls = .type "StopIteration") → E (.ref e) { s with heap := h' }) :
    wpAny (model prog w) A (Builtin.SmallTypes.nextOf (.ref i)) Q E s := by
  have hit := hT.1
  have hl := hT.2
  obtain ⟨o, ho, hc, hd⟩ := id hit
  obtain ⟨ol, hol, hcl, nl, hdl⟩ := id hl
  unfold Builtin.SmallTypes.nextOf
  refine wpAny_bind (wpAny_callSpecial?_slot (name := Str.ofString "__next__") hit.typeIs F.slot_tuple_iterator_next
    (wpAny_call_entry F.slot_tuple_iterator_next hit.typeIs F.entry_tuple_iterator_next ?_ (F.args_tuple_iterator_next_1 _)))
  show wpAny _ _ (field (.ref i) 0 >>= _) _ _ s
  refine wpAny_bind (wpAny_field ho hd (x := .ref l) rfl ?_)
  show wpAny _ _ (if (Value.ref l == Value.none) = true then _ else _) _ _ s
  rw [if_neg (show ¬ ((Value.ref l == Value.none) = true) from Bool.false_ne_true)]
  show wpAny _ _ (field (.ref i) 1 >>= _) _ _ s
  refine wpAny_bind (wpAny_field ho hd (x := .int k 0) rfl ?_)
  show wpAny _ _ (seqItems? (.ref l) >>= _) _ _ s
  refine wpAny_bind (wpAny_seqItems hol hdl ?_)
  cases hx : xs[k]? with
  | some x =>
    simp only [Int.toNat_natCast, hx]
    refine wpAny_bind (wpAny_setField ho hd (by simp) (wpAny_pure ⟨x, rfl, wpAny_pure ?_⟩))
    refine hQ x _ hx ⟨⟨_, Heap.get?_update_self _ ho (Obj.isFreed_of_fields (Obj.data_mapFields hd _)), (Obj.cls_mapFields ..).trans hc, ?_⟩, hl.extBut (Heap.SameBut.update ..).extBut hil⟩ (Heap.SameBut.update ..)
    rw [Obj.data_mapFields hd]; simp [rawInt]
  | none =>
    simp only [Int.toNat_natCast, hx]
    refine wpAny_bind (wpAny_rule (wpAny_bind (wpAny_setField ho hd (by simp) ?_)))
    show wpAny _ _ (newExc (.type "StopIteration") [] >>= _) _ _ _
    refine wpAny_bind ?_
    simp only [newExc, newTuple]
    refine wpAny_bind (wpAny_newObj_type ?_ (by size_fits))
    refine wpAny_bind (m := firstArgMember _ _) (wpAny_of_eq (a := Value.none) (by first | rfl | (simp only [firstArgMember]; rfl)) ?_)
    refine wpAny_newObj_type ?_ (by size_fits)
    simp only [raiseNew]
    refine wpAny_bind (wpAny_handled ?_)
    first | rw [show A.in1.handled = none from hh] | rw [hh]
    refine wpAny_bind (wpAny_pure (wpAny_throw ?_))
    exact hE hx _ _ (((Heap.SameBut.update ..).extBut.push _).push _) ⟨_, Heap.get?_push_size _ rfl, rfl⟩
end

/-- the five things that zip(l1, l2) makes, laid at B, B + 1, .. -/
structure ZipAt (B l1 l2 : Nat) (xs ys : Array Value) (k : Nat) (f0 : Value) (h : Heap) : Prop where
  z : IsZip h (B + 4) (B + 2) (B + 3) f0
  ti : IsPair h (B + 2) (.ref B) (.ref (B + 1))
  to : ∃ a b, IsPair h (B + 3) a b
  i1 : TupAt B l1 xs k h
  i2 : TupAt (B + 1) l2 ys k h
theorem ZipAt.keep {B l1 l2 : Nat} {xs ys : Array Value} {k : Nat} {f0 : Value} {h h' : Heap} (x : ZipAt B l1 l2 xs ys k f0 h) (h1 : l1 < B) (h2 : l2 < B)
    (e : ∀ (c : Nat) o, c < B + 5 → h.get? c = some o → h'.get? c = some o) : ZipAt B l1 l2 xs ys k f0 h' where
  z := e _ _ (by omega) x.z
  ti := e _ _ (by omega) x.ti
  to := let ⟨a, b, p⟩ := x.to; ⟨a, b, e _ _ (by omega) p⟩
  i1 := x.i1.keep (fun o p => e _ o (by omega) p) (fun o p => e _ o (Nat.lt_trans h1 (by omega)) p)
  i2 := x.i2.keep (fun o p => e _ o (by omega) p) (fun o p => e _ o (Nat.lt_trans h2 (by omega)) p)

section
variable {prog : Program} {w : World} {A : Around} {E : Value → Shared → Prop} {s : Shared} {B l1 l2 : Nat} {xs ys : Array Value} {k : Nat}
theorem lt_ne {a b : Nat} (h : a < b) : a ≠ b := Nat.ne_of_lt h
theorem zip_step {Q : Value → Shared → Prop} (hh : A.handled = none) (hZ : ZipAt B l1 l2 xs ys k .none s.heap) (h1 : l1 < B) (h2 : l2 < B) (hsz : xs.size = ys.size)
    (hQ : ∀ x y h', xs[k]? = some x → ys[k]? = some y → ZipAt B l1 l2 xs ys (k + 1) (rawInt s.heap.objs.size) h' → IsPair h' s.heap.objs.size x y → h'.objs.size = s.heap.objs.size + 1 →
      (∀ (c : Nat) o, c ≠ B + 4 → c ≠ B + 3 → c ≠ B → c ≠ B + 1 → s.heap.get? c = some o → h'.get? c = some o) → Q (.ref s.heap.objs.size) { s with heap := h' })
    (hE : xs[k]? = none → ∀ h' e, (∀ (c : Nat) o, c ≠ B + 4 → c ≠ B + 3 → c ≠ B → c ≠ B + 1 → s.heap.get? c = some o → h'.get? c = some o) → (∃ o, h'.get? e = some o ∧ o.cls = .type "StopIteration") → E (.ref e) { s with heap := h' }) :
    wpAny (model prog w) A (Builtin.«zip.__next__» ⟨[.ref (B + 4)], []⟩) (fun fin s' => ∃ v, fin = .done (.ret v) ∧ Q v s') E s := by
  obtain ⟨hz, hTI, ⟨a, b, hTO⟩, T1, T2⟩ := hZ
  have l1z : (l1 : Nat) ≠ B + 4 := by omega
  have l2z : (l2 : Nat) ≠ B + 4 := by omega
  have l1o : (l1 : Nat) ≠ B + 3 := by omega
  have l2o : (l2 : Nat) ≠ B + 3 := by omega
  have l11 : (l1 : Nat) ≠ B := by omega
  have l12 : (l1 : Nat) ≠ B + 1 := by omega
  have l21 : (l2 : Nat) ≠ B := by omega
  have l22 : (l2 : Nat) ≠ B + 1 := by omega
  have n34 : (B + 3 : Nat) ≠ B + 4 := by omega
  have n24 : (B + 2 : Nat) ≠ B + 4 := by omega
  have n14 : (B + 1 : Nat) ≠ B + 4 := by omega
  have n04 : (B : Nat) ≠ B + 4 := by omega
  have n03 : (B : Nat) ≠ B + 3 := by omega
  have n13 : (B + 1 : Nat) ≠ B + 3 := by omega
  have n23 : (B + 2 : Nat) ≠ B + 3 := by omega
  have n01 : (B : Nat) ≠ B + 1 := by omega
  have n20 : (B + 2 : Nat) ≠ B := by omega
  have n21 : (B + 2 : Nat) ≠ B + 1 := by omega
  show wpAny _ _ (field (.ref (B + 4)) 2 >>= _) _ _ _
  refine wpAny_bind (wpAny_field hz rfl (x := .bool false) rfl ?_)
  show wpAny _ _ (field (.ref (B + 4)) 3 >>= _) _ _ _
  refine wpAny_bind (wpAny_field hz rfl (x := .ref (B + 2)) rfl ?_)
  refine wpAny_bind (wpAny_seqItems hTI rfl ?_)
  show wpAny _ _ (Builtin.SmallTypes.ownedTupleIsFree (.ref (B + 4)) >>= _) _ _ _
  refine wpAny_bind ?_
  unfold Builtin.SmallTypes.ownedTupleIsFree
  refine wpAny_bind (wpAny_field hz rfl (x := .none) rfl (wpAny_pure ?_))
  simp only [if_true]
  refine wpAny_bind (wpAny_rule ?_)
  refine wpAny_bind (wpAny_field hz rfl (x := .ref (B + 3)) rfl ?_)
  refine wpAny_bind (wpAny_setField_rec hz (by simp) fun g1 z1 s1 => ?_)
  replace z1 : IsZip g1 (B + 4) (B + 2) (B + 3) .ellipsis := z1
  refine wpAny_bind ?_
  simp only [List.zipIdx_cons, List.zipIdx_nil, List.forIn_cons, List.forIn_nil]
  refine wpAny_bind (wpAny_bind (wpAny_onRaise ?_))
  show wpAny _ _ (Builtin.SmallTypes.nextOf (.ref B) >>= _) _ _ _
  refine wpAny_bind (tup_step hh (T1.but s1.extBut n04 l1z) l11 (fun x g2 hx T1' s2 => wpAny_pure ?_) fun hx g2 e s2 he => ?_)
  · obtain ⟨y, hy⟩ : ∃ y, ys[k]? = some y := by
      have : k < ys.size := hsz ▸ (Array.getElem?_eq_some_iff.mp hx).1
      exact ⟨_, Array.getElem?_eq_getElem this⟩
    have o2 : IsPair g2 (B + 3) a b := s2.extBut _ _ n03.symm (s1.extBut _ _ n34 hTO)
    refine wpAny_bind (wpAny_seqItems o2 rfl ?_)
    refine wpAny_bind (wpAny_updateSeq_pair o2 fun g3 o3 s3 => ?_)
    replace o3 : IsPair g3 (B + 3) x b := o3
    refine wpAny_bind (wpAny_letGo (wpAny_pure ?_))
    refine wpAny_bind (wpAny_bind (wpAny_onRaise ?_))
    show wpAny _ _ (Builtin.SmallTypes.nextOf (.ref (B + 1)) >>= _) _ _ _
    refine wpAny_bind (tup_step hh (((T2.but s1.extBut n14 l2z).but s2.extBut n01.symm l21).but s3.extBut n13 l2o) l22 (fun y' g4 hy' T2' s4 => wpAny_pure ?_) fun hy' => ?_)
    · obtain rfl : y = y' := Option.some.inj (hy.symm.trans hy')
      have o4 : IsPair g4 (B + 3) x b := s4.extBut _ _ n13.symm o3
      refine wpAny_bind (wpAny_seqItems o4 rfl ?_)
      refine wpAny_bind (wpAny_updateSeq_pair o4 fun g5 o5 s5 => ?_)
      replace o5 : IsPair g5 (B + 3) x y := o5
      refine wpAny_bind (wpAny_letGo (wpAny_pure (wpAny_pure ?_)))
      refine wpAny_bind (wpAny_seqItems o5 rfl ?_)
      refine wpAny_bind (wpAny_newTuple ?_)
      have hs : g5.objs.size = s.heap.objs.size := by rw [s5.1, s4.1, s3.1, s2.1, s1.1]
      have kp : ∀ (c : Nat) o, c ≠ B + 4 → c ≠ B + 3 → c ≠ B → c ≠ B + 1 → s.heap.get? c = some o → g5.get? c = some o := fun c o c1 c2 c3 c4 e =>
        s5.extBut _ _ c2 (s4.extBut _ _ c4 (s3.extBut _ _ c2 (s2.extBut _ _ c3 (s1.extBut _ _ c1 e))))
      have z5 : IsZip g5 (B + 4) (B + 2) (B + 3) .ellipsis := s5.extBut _ _ n34.symm (s4.extBut _ _ n14.symm (s3.extBut _ _ n34.symm (s2.extBut _ _ n04.symm z1)))
      have T15 : TupAt B l1 xs (k + 1) g5 := ((T1'.but s3.extBut n03 l1o).but s4.extBut n01 l12).but s5.extBut n03 l1o
      have T25 : TupAt (B + 1) l2 ys (k + 1) g5 := T2'.but s5.extBut n13 l2o
      have zlt : (B + 4 : Nat) < g5.objs.size := Heap.lt_size z5
      show wpAny _ _ (Builtin.SmallTypes.ownedTupleHandOut (.ref (B + 4)) (.ref g5.objs.size) >>= _) _ _ _
      refine wpAny_bind ?_
      unfold Builtin.SmallTypes.ownedTupleHandOut
      have z6 : IsZip (g5.push { cls := .type "tuple", data := .seq #[x, y] }) (B + 4) (B + 2) (B + 3) .ellipsis := Heap.get?_push_of_some _ z5
      refine wpAny_bind (wpAny_setField_rec z6 (by simp) fun g7 z7 s7 => ?_)
      replace z7 : IsZip g7 (B + 4) (B + 2) (B + 3) (rawInt g5.objs.size) := z7
      refine wpAny_setField_rec z7 (by simp) fun g8 z8 s8 => ?_
      replace z8 : IsZip g8 (B + 4) (B + 2) (B + 3) (rawInt g5.objs.size) := z8
      have up : ∀ (c : Nat) o, c ≠ B + 4 → g5.get? c = some o → g8.get? c = some o := fun c o c1 e => s8.extBut _ _ c1 (s7.extBut _ _ c1 (Heap.get?_push_of_some _ e))
      have p8 : IsPair g8 g5.objs.size x y := s8.extBut _ _ (Nat.ne_of_gt zlt) (s7.extBut _ _ (Nat.ne_of_gt zlt) (Heap.get?_push_size _ rfl))
      have hs8 : g8.objs.size = g5.objs.size + 1 := by rw [s8.1, s7.1, Heap.size_push]
      rw [hs] at z8 p8 hs8
      refine wpAny_pure ⟨_, rfl, ?_⟩
      show Q (.ref g5.objs.size) _
      rw [hs]
      refine hQ x y g8 hx hy ⟨z8, up _ _ n24 (kp _ _ n24 n23 n20 n21 hTI), ⟨_, _, up _ _ n34 o5⟩, ?_, ?_⟩ p8 hs8 fun c o c1 c2 c3 c4 e => up c o c1 (kp c o c1 c2 c3 c4 e)
      · exact T15.keep (fun o e => up _ o n04 e) (fun o e => up _ o l1z e)
      · exact T25.keep (fun o e => up _ o n14 e) (fun o e => up _ o l2z e)
    · rw [hy] at hy'; cases hy'
  · obtain ⟨oe, hoe, hce⟩ := he
    have z2 : IsZip g2 (B + 4) (B + 2) (B + 3) .ellipsis := s2 _ _ n04.symm z1
    have hez : e ≠ B + 4 := fun q => by subst q; rw [z2] at hoe; cases hoe; simp at hce
    refine wpAny_setField_rec z2 (by simp) fun g3 _ s3 => hE hx g3 e (fun c o c1 _ c3 _ q => s3.extBut _ _ c1 (s2 _ _ c3 (s1.extBut _ _ c1 q))) ⟨oe, s3.extBut _ _ hez hoe, hce⟩

theorem zip_next {Q : Option Value → Shared → Prop} (hh : A.handled = none) (hZ : ZipAt B l1 l2 xs ys k .none s.heap) (h1 : l1 < B) (h2 : l2 < B) (hsz : xs.size = ys.size)
    (hQ : ∀ x y h', xs[k]? = some x → ys[k]? = some y → ZipAt B l1 l2 xs ys (k + 1) (rawInt s.heap.objs.size) h' → IsPair h' s.heap.objs.size x y → h'.objs.size = s.heap.objs.size + 1 →
      (∀ (c : Nat) o, c ≠ B + 4 → c ≠ B + 3 → c ≠ B → c ≠ B + 1 → s.heap.get? c = some o → h'.get? c = some o) → Q (some (.ref s.heap.objs.size)) { s with heap := h' })
    (hE : xs[k]? = none → ∀ h', (∀ (c : Nat) o, c ≠ B + 4 → c ≠ B + 3 → c ≠ B → c ≠ B + 1 → s.heap.get? c = some o → h'.get? c = some o) → Q none { s with heap := h' }) :
    wpAny (model prog w) A (pyNext (.ref (B + 4))) Q E s := by
  have hT : s.TypeIs (.ref (B + 4)) "zip" := ⟨_, hZ.z, rfl⟩
  unfold pyNext
  refine wpAny_bind (wpAny_attempt (wpAny_callSpecial?_slot (name := Str.ofString "__next__") hT F.slot_zip_next
    (wpAny_call_entry F.slot_zip_next hT F.entry_zip_next
      (zip_step hh hZ h1 h2 hsz (fun x y h' a1 a2 a3 a4 a5 a6 => wpAny_pure (hQ x y h' a1 a2 a3 a4 a5 a6)) fun hx h' e hk he => ?_) (F.args_zip_next_1 _))))
  obtain ⟨o, ho, hc⟩ := he
  refine wpAny_bind (wpAny_isInstance (T := "StopIteration") (b := true) ⟨o, ho, hc⟩ isSubtype_stop ?_)
  exact wpAny_pure (hE hx _ hk)
end

section
variable {prog : Program} {w : World} {A : Around} {E : Value → Shared → Prop} {s : Shared} {l1 l2 : Addr} {xs ys : Array Value}
abbrev tz1 (h : Heap) (l1 : Addr) : Heap := h.push { cls := .type "tuple_iterator", data := .fields #[.ref l1, .int 0 0] }
abbrev tz2 (h : Heap) (l1 l2 : Addr) : Heap := (tz1 h l1).push { cls := .type "tuple_iterator", data := .fields #[.ref l2, .int 0 0] }
abbrev tz3 (h : Heap) (l1 l2 : Addr) : Heap := (tz2 h l1 l2).push { cls := .type "tuple", data := .seq #[.ref h.objs.size, .ref (tz1 h l1).objs.size] }
abbrev tz4 (h : Heap) (l1 l2 : Addr) : Heap := (tz3 h l1 l2).push { cls := .type "tuple", data := .seq #[.none, .none] }
abbrev tz5 (h : Heap) (l1 l2 : Addr) : Heap := (tz4 h l1 l2).push { cls := .type "zip", data := .fields #[.none, .bool false, .bool false, .ref (tz2 h l1 l2).objs.size, .ref (tz3 h l1 l2).objs.size] }
theorem meets_zipT (l1 l2 : Addr) (xs ys : Array Value) :
    Meets (Builtin.«zip.__new__» ⟨[.type "zip", .ref l1, .ref l2], []⟩) (fun _ R s => s.heap.IsTuple l1 xs ∧ s.heap.IsTuple l2 ys ∧
      R (.ok (.ret (.ref (tz4 s.heap l1 l2).objs.size))) { s with heap := tz5 s.heap l1 l2 }) :=
  .of_wp fun prog w A R s h => by
    obtain ⟨hp, g, d, tk, os⟩ := s; obtain ⟨hl1, hl2, h⟩ := h
    have hsub := sub_zip
    have hL1 : Heap.IsTuple (Shared.heap ⟨hp, g, d, tk, os⟩) l1 xs := hl1
    have hL2 : Heap.IsTuple (Shared.heap ⟨hp.push { cls := .type "tuple_iterator", data := .fields #[.ref l1, .int 0 0] }, g, d, tk, os⟩) l2 ys := Heap.IsTuple.push hl2 _
    wp_walk using wpAny_pyIter_tuple hL1, wpAny_pyIter_tuple hL2
    exact ⟨_, rfl, h⟩
theorem zip_make {Q : Value → Shared → Prop} (hl1 : s.heap.IsTuple l1 xs) (hl2 : s.heap.IsTuple l2 ys)
    (h : ∀ h', ZipAt s.heap.objs.size l1 l2 xs ys 0 .none h' → h'.objs.size = s.heap.objs.size + 5 → (∀ (c : Nat) o, s.heap.get? c = some o → h'.get? c = some o) → Q (.ref (s.heap.objs.size + 4)) { s with heap := h' }) :
    wpAny (model prog w) A (call (.type "zip") [.ref l1, .ref l2]) Q E s := by
  refine callType_new F.called_zip (by decide) (F.typeCall_zip_2 _ _) (F.newCall_zip_2 _ _) (fun obj => F.args_object_init_3 obj _ _) F.entry_zip_new
    (meets_zipT l1 l2 xs ys) ⟨hl1, hl2, ?_⟩
  have e1 : (tz1 s.heap l1).objs.size = s.heap.objs.size + 1 := Heap.size_push ..
  have e2 : (tz2 s.heap l1 l2).objs.size = s.heap.objs.size + 2 := by rw [Heap.size_push, e1]
  have e3 : (tz3 s.heap l1 l2).objs.size = s.heap.objs.size + 3 := by rw [Heap.size_push, e2]
  have e4 : (tz4 s.heap l1 l2).objs.size = s.heap.objs.size + 4 := by rw [Heap.size_push, e3]
  have e5 : (tz5 s.heap l1 l2).objs.size = s.heap.objs.size + 5 := by rw [Heap.size_push, e4]
  have up : ∀ (c : Nat) o, s.heap.get? c = some o → (tz5 s.heap l1 l2).get? c = some o := fun c o x =>
    Heap.get?_push_of_some _ (Heap.get?_push_of_some _ (Heap.get?_push_of_some _ (Heap.get?_push_of_some _ (Heap.get?_push_of_some _ x))))
  have q5 : (tz5 s.heap l1 l2).get? (tz4 s.heap l1 l2).objs.size = some _ := Heap.get?_push_size _ rfl
  have q4 : (tz5 s.heap l1 l2).get? (tz3 s.heap l1 l2).objs.size = some _ := Heap.get?_push_of_some _ (Heap.get?_push_size _ rfl)
  have q3 : (tz5 s.heap l1 l2).get? (tz2 s.heap l1 l2).objs.size = some _ := Heap.get?_push_of_some _ (Heap.get?_push_of_some _ (Heap.get?_push_size _ rfl))
  have q2 : (tz5 s.heap l1 l2).get? (tz1 s.heap l1).objs.size = some _ := Heap.get?_push_of_some _ (Heap.get?_push_of_some _ (Heap.get?_push_of_some _ (Heap.get?_push_size _ rfl)))
  have q1 : (tz5 s.heap l1 l2).get? s.heap.objs.size = some _ := Heap.get?_push_of_some _ (Heap.get?_push_of_some _ (Heap.get?_push_of_some _ (Heap.get?_push_of_some _ (Heap.get?_push_size _ rfl))))
  show _ ∧ _
  rw [e2, e3, e4] at q5
  rw [e1, e2] at q3
  rw [e3] at q4
  rw [e1] at q2
  rw [e4]
  exact ⟨⟨_, q5, rfl⟩, h _ ⟨q5, q3, ⟨_, _, q4⟩, ⟨⟨_, q1, rfl, rfl⟩, hl1.at fun o e => up _ o e⟩, ⟨⟨_, q2, rfl, rfl⟩, hl2.at fun o e => up _ o e⟩⟩ e5 up⟩
end
end AkHaab
namespace AkHaab
open PySem PySem.Float64 PySem.W PyProof.Rows PySem.Spec PySem.Calls

/-- behind zip(l1, l2) of two tuples of ints, ahead of the comprehension's block; Q: what is wanted of the list of the sums -/
def ZipSrc (Q : Value → Shared → Prop) (xv : Value) (s₁ : Shared) : Prop :=
  ∃ (B l1 l2 : Nat) (xs ys : List Value) (as bs : List Int), xv = .ref (B + 4) ∧ l1 < B ∧ l2 < B ∧ IntsAre xs as ∧ IntsAre ys bs ∧ as.length = bs.length ∧ as.length ≤ 100 ∧
    ZipAt B l1 l2 xs.toArray ys.toArray 0 .none s₁.heap ∧ s₁.heap.objs.size = B + 5 ∧
    ∀ (D : Nat) (us : List Value) (h : Heap) (tk : Nat), B ≤ D → IntsAre us (List.zipWith (· + ·) as bs) → (∀ (c : Nat) o, c < B → s₁.heap.get? c = some o → h.get? c = some o) → h.get? D = some (LCg.lst us) → Q (.ref D) { s₁ with heap := h, toks := tk }

section
variable {prog : Program} {w : World} {A : Around} {E : Value → Shared → Prop} {s : Shared} {h₀ : Heap} {L : Addr} {m : Str → Option Value} {news : List (Addr × Obj)} {l1 l2 : Addr} {xs ys : List Value} {as bs : List Int}
theorem zip_src {Q : Value → Shared → Prop} (F : Fr h₀ L s.heap m) (N : News h₀ L s.heap news) (m1 : (l1, tupO xs) ∈ news) (m2 : (l2, tupO ys) ∈ news) (i1 : IntsAre xs as) (i2 : IntsAre ys bs) (hl : as.length = bs.length) (hz : as.length ≤ 100)
    (h : ∀ D us h' tk', IntsAre us (List.zipWith (· + ·) as bs) → Fr h₀ L h' m → News h₀ L h' ((D, LCg.lst us) :: news) → Q (.ref D) { s with heap := h', toks := tk' }) :
    wpAny (model prog w) A (call (.type "zip") [.ref l1, .ref l2]) (fun xv s₁ => ZipSrc Q xv s₁) E s := by
  have t1 : s.heap.IsTuple l1 xs.toArray := ⟨_, (N _ m1).1, rfl, _, rfl⟩
  have t2 : s.heap.IsTuple l2 ys.toArray := ⟨_, (N _ m2).1, rfl, _, rfl⟩
  refine zip_make t1 t2 fun h' hZ hs hk => ⟨s.heap.objs.size, l1, l2, xs, ys, as, bs, rfl, Heap.lt_size (N _ m1).1, Heap.lt_size (N _ m2).1, i1, i2, hl, hz, hZ, hs, fun D us h'' tk hD hu hk2 ho => ?_⟩
  have kp : ∀ (c : Nat) o, s.heap.get? c = some o → h''.get? c = some o := fun c o e => hk2 c o (Heap.lt_size e) (hk c o e)
  refine h D us h'' tk hu (F.keeps kp) fun p hp => ?_
  rcases List.mem_cons.mp hp with rfl | hp
  · exact ⟨ho, fun e => absurd (show s.heap.objs.size ≤ L from e ▸ hD) (Nat.not_le.mpr F.ns.lt), ktu_new F hD⟩
  · exact ⟨kp _ _ (N p hp).1, (N p hp).2⟩

theorem zip_item {as bs : List Int} {i : Nat} {a b : Int} (h1 : as[i]? = some a) (h2 : bs[i]? = some b) : (List.zipWith (· + ·) as bs).take (i + 1) = (List.zipWith (· + ·) as bs).take i ++ [a + b] := by
  have : (List.zipWith (· + ·) as bs)[i]? = some (a + b) := by rw [List.getElem?_zipWith, h1, h2]
  rw [List.take_add_one, this]; rfl

theorem zip_comp {env : Env} {iter : PySem.Expr} {a b : Str} {p1 p2 p3 pa pb tp : Pos} {kk : Nat} {scope : Scope} {cl : List (Str × Addr)} {pos : Pos} {Q : Value → Shared → Prop} (hh : A.handled = none)
    (hclos : closureFor scope env = pure cl) (hcell : ∀ y ∈ scope.names, y.2 ≠ .cell) (hkind : scope.kind = .function)
    (hnames : ∀ y ∈ scope.names, y.2 = .local → scope.names.lookup y.1 = some .local) (hxa : scope.names.lookup a = some .local) (hxb : scope.names.lookup b = some .local) (hab : ¬ a = b)
    (hda : (a == ("__debug__" : Str)) = false) (hdb : (b == ("__debug__" : Str)) = false)
    (h : wpAny (model prog w) A (eval iter env) (fun xv s₁ => ZipSrc Q xv s₁) E s)
    (hs : ∀ x, foldedSetIterable iter env x = pure x := by intro _; rfl) :
    wpAny (model prog w) A (eval (.ListComp (.BinOp (.Name a p1) .Add (.Name b p2) p3) [⟨.Tuple [.Name a pa, .Name b pb] kk tp, iter, [], 0⟩] scope pos) env) Q E s := by
  rw [eval_ListComp]
  refine wpAny_comprehension_free (use := none) rfl hs hclos hkind hnames (wpAny_mono h (fun xv s₁ h₁ => ?_) fun _ _ e => e)
  obtain ⟨B, l1, l2, xs, ys, as, bs, rfl, hl1, hl2, hi1, hi2, hlen, hsz, hZ, hB, fin⟩ := h₁
  have hxl := hi1.length
  have hyl := hi2.length
  have hsza : xs.toArray.size = ys.toArray.size := by rw [List.size_toArray, List.size_toArray]; omega
  refine wpAny_pyIter_zip hZ.z ?_
  refine wpAny_newObj_type (wpAny_newFunctionEnv hcell (by intro y hy; simp at hy) (fun h₁ hns₁ hsb₁ => ?_) hkind)
  dsimp only at hns₁ hsb₁ ⊢
  generalize hH2 : s₁.heap.push { cls := .type "list", dict := none, data := .seq ([] : List Value).toArray } = H2 at hns₁ hsb₁ ⊢
  have hC : H2.objs.size = B + 6 := by rw [← hH2, Heap.size_push, hB]
  rw [hC] at hns₁ hsb₁ ⊢
  have acc₁ : h₁.get? (B + 5) = some (LCg.lst []) := by
    refine hsb₁.extBut _ _ (by show (B + 5 : Nat) ≠ B + 6; omega) (Heap.get?_push_of_some _ ?_)
    rw [← hB, ← hH2]
    exact Heap.get?_push_size _ rfl
  have old : ∀ (c : Nat) o, s₁.heap.get? c = some o → h₁.get? c = some o := fun c o e => by
    have hlt : c < s₁.heap.objs.size := Heap.lt_size e
    refine hsb₁.extBut c o (by show (c : Nat) ≠ B + 6; omega) (Heap.get?_push_of_some _ ?_)
    rw [← hH2]
    exact Heap.get?_push_of_some _ e
  have hZ₁ : ZipAt B l1 l2 xs.toArray ys.toArray 0 .none h₁ := hZ.keep hl1 hl2 fun c o _ e => old c o e
  rw [hB]
  have loop : ∀ s₃ : Shared, s₃ = { s₁ with heap := h₁, toks := s₁.toks + ([] : List (Str × Value)).length } →
      codeAny (model prog w) A (.compLoop (.ListComp (.BinOp (.Name a p1) .Add (.Name b p2) p3) [⟨.Tuple [.Name a pa, .Name b pb] kk tp, iter, [], 0⟩] scope pos) 0 (.ref (B + 4)) (.ref (B + 5)) (compEnvC scope cl (B + 6) env))
        (compPost (model prog w) A E none Q (.ref (B + 5)) (B + 6)) s₃ := by
    rintro s₃ rfl
    refine kcp_loop
      (fun k s' => ∃ h' tk i us m', s' = { s₁ with heap := h', toks := tk } ∧ i ≤ as.length ∧ k = as.length + 1 - i ∧ us.length = i ∧ IntsAre us ((List.zipWith (· + ·) as bs).take i) ∧
        ZipAt B l1 l2 xs.toArray ys.toArray i .none h' ∧ h'.Ns (B + 6) m' ∧ h'.get? (B + 5) = some (LCg.lst us) ∧ (∀ (c : Nat) o, c < B → s₁.heap.get? c = some o → h'.get? c = some o)) ?_ (as.length + 1)
      ⟨h₁, _, 0, [], _, rfl, Nat.zero_le _, rfl, rfl, by rw [List.take_zero]; exact .nil, hZ₁, hns₁, acc₁, fun c o _ e => old c o e⟩
    rintro k s' ⟨h', tk, i, us, m', rfl, hi, rfl, hul, hus, hZ', hn', ho', hk'⟩
    refine zip_next hh hZ' hl1 hl2 hsza (fun x y h₂ hx hy hZ₂ hP hs₂ hk₂ => ?_) fun hx h₂ hk₂ => ?_
    · obtain ⟨a1, t1, rfl, ha1⟩ := hi1.at i x (by simpa using hx)
      obtain ⟨b1, u1, rfl, hb1⟩ := hi2.at i y (by simpa using hy)
      have hilt : i < as.length := (List.getElem?_eq_some_iff.mp ha1).1
      have hClt : (B + 6 : Nat) < h'.objs.size := hn'.lt
      dsimp only at hs₂ hP hZ₂ hk₂ ⊢
      generalize hT : h'.objs.size = T at *
      refine wpAny_letOwnedTupleGo_zip hZ₂.z fun h₃ hz₃ hs₃ => ?_
      have hT₃ : h₃.IsTuple T #[.int a1 t1, .int b1 u1] := ⟨_, hs₃.extBut _ _ (by show (T : Nat) ≠ B + 4; omega) hP, rfl, _, rfl⟩
      have up₃ : ∀ (c : Nat) o, c ≠ B + 4 → c ≠ B + 3 → c ≠ B → c ≠ B + 1 → h'.get? c = some o → h₃.get? c = some o := fun c o c1 c2 c3 c4 e => hs₃.extBut _ _ c1 (hk₂ c o c1 c2 c3 c4 e)
      have hZ₃ : ZipAt B l1 l2 xs.toArray ys.toArray (i + 1) .none h₃ := by
        obtain ⟨q1, q2, ⟨qa, qb, q3⟩, q4, q5⟩ := hZ₂
        refine ⟨hz₃, hs₃.extBut _ _ (by show (B + 2 : Nat) ≠ B + 4; omega) q2, ⟨qa, qb, hs₃.extBut _ _ (by show (B + 3 : Nat) ≠ B + 4; omega) q3⟩, ?_, ?_⟩
        · exact q4.but hs₃.extBut (by show (B : Nat) ≠ B + 4; omega) (by show (l1 : Nat) ≠ B + 4; omega)
        · exact q5.but hs₃.extBut (by show (B + 1 : Nat) ≠ B + 4; omega) (by show (l2 : Nat) ≠ B + 4; omega)
      have hn₃ : h₃.Ns (B + 6) m' := hn'.at' fun o e => up₃ _ o (by omega) (by omega) (by omega) (by omega) e
      refine kcp_assign (env := compEnvC scope cl (B + 6) env) hh hT₃ (lookup_relabel_local hxa) (lookup_relabel_local hxb) (by simp [compEnvC, relabel, hkind]) hn₃ fun h₄ tk₄ hn₄ hs₄ => ?_
      replace hs₄ : ∀ (c : Nat) o, c ≠ B + 6 → h₃.get? c = some o → h₄.get? c = some o := hs₄
      refine wpAny_BinOp (ldVarK hn₄ (v := .int a1 t1) (by simp [hab]) (ldVarK hn₄ (v := .int b1 u1) (by simp) (add_int ?_) hkind (lookup_relabel_local hxb) hdb) hkind (lookup_relabel_local hxa) hda)
      have ho₄ : h₄.get? (B + 5) = some (LCg.lst us) := hs₄ _ _ (by omega) (up₃ _ _ (by omega) (by omega) (by omega) (by omega) ho')
      refine append_at (hsz := by show us.toArray.size ≤ sizeLine; rw [List.size_toArray, hul, sizeLine_eq]; omega) ho₄ fun h₅ hs₅ ho₅ => ?_
      refine ⟨as.length + 1 - (i + 1), by omega, h₅, _, i + 1, us ++ [.int (a1 + b1) tk₄], _, rfl, hilt, rfl, by rw [List.length_append, List.length_singleton, hul], ?_, ?_, hn₄.sameBut hs₅ (by show (B + 6 : Nat) ≠ B + 5; omega), ho₅.trans (congrArg some (LCg.lst_snoc us _)), ?_⟩
      · rw [zip_item ha1 hb1]
        exact IntsAre.append hus (.cons _ _ .nil)
      · exact (hZ₃.keep hl1 hl2 fun c o hc e => hs₄ c o (by omega) e).keep hl1 hl2 fun c o hc e => hs₅.extBut c o (by show (c : Nat) ≠ B + 5; omega) e
      · intro c o hc e
        exact hs₅.extBut c o (by show (c : Nat) ≠ B + 5; omega) (hs₄ c o (by omega) (up₃ c o (by omega) (by omega) (by omega) (by omega) (hk' c o hc e)))
    · have hin : i = as.length := by
        have : xs.toArray.size ≤ i := Array.getElem?_eq_none_iff.mp hx
        rw [List.size_toArray] at this; omega
      subst hin
      refine ⟨m', hn'.at' fun o e => hk₂ _ o (by omega) (by omega) (by omega) (by omega) e, fun h₃ hs₃ => ?_⟩
      refine fin (B + 5) us h₃ tk (by omega) ?_ (fun c o hc e => ?_) ?_
      · rw [List.take_of_length_le (by rw [List.length_zipWith]; omega)] at hus
        exact hus
      · exact hs₃.extBut c o (by show (c : Nat) ≠ B + 6; omega) (hk₂ c o (by omega) (by omega) (by omega) (by omega) (hk' c o hc e))
      · exact hs₃.extBut _ _ (by show (B + 5 : Nat) ≠ B + 6; omega) (hk₂ _ _ (by omega) (by omega) (by omega) (by omega) ho')
  exact codeAny_compStart_list (loop _ rfl) (wpAny_pyIter_zip hZ₁.z (loop _ rfl))
end
theorem zip5_inv {us : List Value} {a b c d e a' b' c' d' e' : Int} (h : IntsAre us (List.zipWith (· + ·) [a, b, c, d, e] [a', b', c', d', e'])) :
    ∃ t1 t2 t3 t4 t5, us = [.int (a + a') t1, .int (b + b') t2, .int (c + c') t3, .int (d + d') t4, .int (e + e') t5] := by
  obtain ⟨t1, _, rfl, g1⟩ := h.cons_inv
  obtain ⟨t2, _, rfl, g2⟩ := g1.cons_inv
  obtain ⟨t3, _, rfl, g3⟩ := g2.cons_inv
  obtain ⟨t4, _, rfl, g4⟩ := g3.cons_inv
  obtain ⟨t5, _, rfl, g5⟩ := g4.cons_inv
  obtain rfl := g5.nil_inv
  exact ⟨t1, t2, t3, t4, t5, rfl⟩
section
variable {prog : Program} {w : World} {A : Around} {E : Value → Shared → Prop} {s : Shared} {a : Int} {t : Tok} {Q : Value → Shared → Prop}
theorem ak_abs (ha : -10000000 < a ∧ a < 10000000) (h : ∀ d u tk, (0 ≤ d ∧ d < 10000000) → Q (.int d u) { s with toks := tk }) : wpAny (model prog w) A (call (.builtin "abs") [.int a t]) Q E s :=
  call_abs_int fun u tk => h _ u tk (by split <;> omega)
end
theorem jd_sum (n d : Int) : 1168565 + 2 * ((n / 144000 + d / 144000) * 144000 + (n % 144000 / 7200 + d / 7200 % 20) * 7200 + (n % 7200 / 360 + d / 360 % 20) * 360 + (n % 360 / 20 + d / 20 % 18) * 20 + (n % 20 + d % 20)) = 1168565 + 2 * n + 2 * d := by
  have h1 : n / 144000 * 144000 + n % 144000 / 7200 * 7200 + n % 7200 / 360 * 360 + n % 360 / 20 * 20 + n % 20 = n := by
    have e0 : n / 144000 * 144000 = n - n % 144000 := by omega
    have e1 : n % 144000 / 7200 * 7200 = n % 144000 - n % 7200 := by omega
    have e2 : n % 7200 / 360 * 360 = n % 7200 - n % 360 := by omega
    have e3 : n % 360 / 20 * 20 = n % 360 - n % 20 := by omega
    rw [e0, e1, e2, e3]; omega
  have h2 : d / 144000 * 144000 + d / 7200 % 20 * 7200 + d / 360 % 20 * 360 + d / 20 % 18 * 20 + d % 20 = d := by
    have f1 : d / 7200 % 20 = d % 144000 / 7200 := by omega
    have f2 : d / 360 % 20 = d % 7200 / 360 := by omega
    have f3 : d / 20 % 18 = d % 360 / 20 := by omega
    have e0 : d / 144000 * 144000 = d - d % 144000 := by omega
    have e1 : d % 144000 / 7200 * 7200 = d % 144000 - d % 7200 := by omega
    have e2 : d % 7200 / 360 * 360 = d % 7200 - d % 360 := by omega
    have e3 : d % 360 / 20 * 20 = d % 360 - d % 20 := by omega
    rw [f1, f2, f3, e0, e1, e2, e3]; omega
  generalize n / 144000 = n0 at *
  generalize n % 144000 / 7200 = n1 at *
  generalize n % 7200 / 360 = n2 at *
  generalize n % 360 / 20 = n3 at *
  generalize n % 20 = n4 at *
  generalize d / 144000 = d0 at *
  generalize d / 7200 % 20 = d1 at *
  generalize d / 360 % 20 = d2 at *
  generalize d / 20 % 18 = d3 at *
  generalize d % 20 = d4 at *
  omega
theorem step20 {X A B C : Int} (h : X = A + B + C) : X / 20 = A / 20 + B / 20 + (C + (A % 20 + B % 20)) / 20 ∧ X % 20 = (C + (A % 20 + B % 20)) % 20 := by subst h; omega
theorem step18 {X A B C : Int} (h : X = A + B + C) : X / 18 = A / 18 + B / 18 + (C + (A % 18 + B % 18)) / 18 ∧ X % 18 = (C + (A % 18 + B % 18)) % 18 := by subst h; omega
theorem dd1 (n : Int) : n % 360 / 20 = n / 20 % 18 ∧ n % 7200 / 360 = n / 360 % 20 ∧ n % 144000 / 7200 = n / 7200 % 20 := ⟨by omega, by omega, by omega⟩
theorem dd2 (n : Int) : n / 20 / 18 = n / 360 ∧ n / 360 / 20 = n / 7200 ∧ n / 7200 / 20 = n / 144000 := ⟨by omega, by omega, by omega⟩
theorem carry (n d : Int) :
    (n + d) / 144000 = ((((n % 20 + d % 20) / 20 + (n % 360 / 20 + d / 20 % 18)) / 18 + (n % 7200 / 360 + d / 360 % 20)) / 20 + (n % 144000 / 7200 + d / 7200 % 20)) / 20 + n / 144000 + d / 144000 ∧
    (n + d) % 144000 / 7200 = ((((n % 20 + d % 20) / 20 + (n % 360 / 20 + d / 20 % 18)) / 18 + (n % 7200 / 360 + d / 360 % 20)) / 20 + (n % 144000 / 7200 + d / 7200 % 20)) % 20 ∧
    (n + d) % 7200 / 360 = (((n % 20 + d % 20) / 20 + (n % 360 / 20 + d / 20 % 18)) / 18 + (n % 7200 / 360 + d / 360 % 20)) % 20 ∧
    (n + d) % 360 / 20 = ((n % 20 + d % 20) / 20 + (n % 360 / 20 + d / 20 % 18)) % 18 ∧
    (n + d) % 20 = (n % 20 + d % 20) % 20 := by
  obtain ⟨b1, b2, b3⟩ := dd1 n
  obtain ⟨c1, c2, c3⟩ := dd1 (n + d)
  obtain ⟨n1, n2, n3⟩ := dd2 n
  obtain ⟨d1, d2, d3⟩ := dd2 d
  obtain ⟨m1, m2, m3⟩ := dd2 (n + d)
  rw [b1, b2, b3, c1, c2, c3]
  obtain ⟨s1, t1⟩ := step20 (X := n + d) (A := n) (B := d) (C := 0) (Int.add_zero _).symm
  rw [Int.zero_add] at s1 t1
  obtain ⟨s2, t2⟩ := step18 s1
  rw [n1, d1, m1] at s2
  obtain ⟨s3, t3⟩ := step20 s2
  rw [n2, d2, m2] at s3
  obtain ⟨s4, t4⟩ := step20 s3
  rw [n3, d3, m3] at s4
  refine ⟨?_, t4, t3, t2, t1⟩
  rw [s4]
  clear b1 b2 b3 c1 c2 c3 n1 n2 n3 d1 d2 d3 m1 m2 m3 s1 t1 s2 t2 s3 t3 s4 t4
  generalize n / 144000 = a
  generalize d / 144000 = b
  generalize (((n % 20 + d % 20) / 20 + (n / 20 % 18 + d / 20 % 18)) / 18 + (n / 360 % 20 + d / 360 % 20)) / 20 + (n / 7200 % 20 + d / 7200 % 20) = z
  omega
/-- the law's last word: each place, as the carry loop leaves it -/
theorem carry_ends (n d : Int) :
    (n + d) / 144000 = ((((0 + (n % 20 + d % 20)) / 20 + (n % 360 / 20 + d / 20 % 18)) / 18 + (n % 7200 / 360 + d / 360 % 20)) / 20 + (n % 144000 / 7200 + d / 7200 % 20)) / 20 + n / 144000 + d / 144000 ∧
    (n + d) % 144000 / 7200 = ((((0 + (n % 20 + d % 20)) / 20 + (n % 360 / 20 + d / 20 % 18)) / 18 + (n % 7200 / 360 + d / 360 % 20)) / 20 + (n % 144000 / 7200 + d / 7200 % 20)) % 20 ∧
    (n + d) % 7200 / 360 = (((0 + (n % 20 + d % 20)) / 20 + (n % 360 / 20 + d / 20 % 18)) / 18 + (n % 7200 / 360 + d / 360 % 20)) % 20 ∧
    (n + d) % 360 / 20 = ((0 + (n % 20 + d % 20)) / 20 + (n % 360 / 20 + d / 20 % 18)) % 18 ∧
    (n + d) % 20 = (0 + (n % 20 + d % 20)) % 20 := by
  simp only [Int.zero_add]
  exact carry n d
end AkHaab

-- the law
namespace AkHaab
open PySem PySem.Float64 PySem.W PyProof.Rows PySem.Spec PySem.Calls
section
variable {w : World} {loose : List Str} {mean : ExcName → Option Value} {mg mb : Str → Option Value}
theorem to_haab_place {n p : Int} {t1 : Tok} (hn : 0 ≤ n ∧ n ≤ 15000000) (h1 : (n + 348) % 365 = 1) (hp : 1 ≤ p ∧ p < 19) :
   AkTells w loose mean mg mb 1 108 [.float (hf (1168565 + 2 * n + 2 * (20 * p))) t1] (TupOf fun vs => ∃ u1 u2, vs = [.int 1 u1, .str (hName p) u2]) := to_haab_first (by omega) (by omega) (by omega)
theorem lc_sum (n : Int) : n / 144000 * 144000 + n % 144000 / 7200 * 7200 + n % 7200 / 360 * 360 + n % 360 / 20 * 20 + n % 20 = n := by
  have e0 : n / 144000 * 144000 = n - n % 144000 := by omega
  have e1 : n % 144000 / 7200 * 7200 = n % 144000 - n % 7200 := by omega
  have e2 : n % 7200 / 360 * 360 = n % 7200 - n % 360 := by omega
  have e3 : n % 360 / 20 * 20 = n % 360 - n % 20 := by omega
  rw [e0, e1, e2, e3]; omega
theorem lc_sum2 (d : Int) : d / 144000 * 144000 + d / 7200 % 20 * 7200 + d / 360 % 20 * 360 + d / 20 % 18 * 20 + d % 20 = d := by
  have e1 : d / 7200 % 20 = d % 144000 / 7200 := by omega
  have e2 : d / 360 % 20 = d % 7200 / 360 := by omega
  have e3 : d / 20 % 18 = d % 360 / 20 := by omega
  rw [e1, e2, e3]; exact lc_sum d
theorem lc_day {n : Int} {t1 t2 t3 t4 t5 : Tok} (hn : 0 ≤ n ∧ n ≤ 30000000) (h5 : n % 5 = 3) (hd : (n + 348) % 365 = 1) :
   AkTells w loose mean mg mb 3 122 [.int (n / 144000) t1, .int (n % 144000 / 7200) t2, .int (n % 7200 / 360) t3, .int (n % 360 / 20) t4, .int (n % 20) t5] (Val1 fun r => ∃ tk, r = .str (Str.ofString (toString ((n + 3) % 13 + 1)) ++ Str.ofString " " ++ bName ((n + 19) % 20 / 5) ++ Str.ofString " 1 Pop") tk) :=
  lc_new (lc_sum n).symm h5 hd (by omega) (by omega) (by omega) (by omega) (by omega)
theorem from_jd_at {n : Int} {t1 : Tok} (hn : 0 ≤ n ∧ n ≤ 30000000) :
   AkTells w loose mean mg mb 1 94 [.float (hf (1168565 + 2 * n)) t1] (TupOf fun vs => ∃ u1 u2 u3 u4 u5, vs = [.int (n / 144000) u1, .int (n % 144000 / 7200) u2, .int (n % 7200 / 360) u3, .int (n % 360 / 20) u4, .int (n % 20) u5]) := by
  have h := @from_jd_mayan_ok w loose mean mg mb (1168565 + 2 * n) t1 (by omega) (by omega)
  have e : (1168565 + 2 * n - 1168565) / 2 = n := by omega
  rwa [e] at h
theorem from_jd_plus {n d : Int} {t1 : Tok} (hn : 0 ≤ n ∧ n ≤ 15000000) (hd : 0 ≤ d ∧ d ≤ 15000000) :
   AkTells w loose mean mg mb 1 94 [.float (hf (1168565 + 2 * n + 2 * d)) t1] (TupOf fun vs => ∃ u1 u2 u3 u4 u5, vs = [.int ((n + d) / 144000) u1, .int ((n + d) % 144000 / 7200) u2, .int ((n + d) % 7200 / 360) u3, .int ((n + d) % 360 / 20) u4, .int ((n + d) % 20) u5]) := by
  have h := @from_jd_at w loose mean mg mb (n + d) t1 (by omega)
  have e : 1168565 + 2 * (n + d) = 1168565 + 2 * n + 2 * d := by omega
  rwa [e] at h
end
end AkHaab

open PySem PySem.Float64 PySem.W PyProof.Rows PySem.Spec PySem.Calls AkHaab
-- the walk's own lines for floats
local macro_rules | `(tactic| walk_at "ak fit") => `(tactic| (unfold Fit; omega))
local macro_rules | `(tactic| walk_at "ak int") => `(tactic| omega)
local macro_rules | `(tactic| walk_at "ak lit") => `(tactic| first | with_reducible rfl | exact lit_half | exact lit_epoch)
local macro_rules | `(tactic| walk_at "binaryOp Add float int") => `(tactic| (k_here; k_dflt (refine' ak_add_fi ?hx ?f1 ?f2 ?f3 ?_; (case hx => walk_at "ak lit"); (case f1 => walk_at "ak fit"); (case f2 => walk_at "ak fit"); (case f3 => walk_at "ak fit"); k_whole); try dsimp only))
local macro_rules | `(tactic| walk_at "inplaceOp Add float int") => `(tactic| (k_here; k_dflt (refine' ak_iadd_fi ?hx ?f1 ?f2 ?f3 ?_; (case hx => walk_at "ak lit"); (case f1 => walk_at "ak fit"); (case f2 => walk_at "ak fit"); (case f3 => walk_at "ak fit"); k_whole); try dsimp only))
local macro_rules | `(tactic| walk_at "binaryOp Add int float") => `(tactic| (k_here; k_dflt (refine' ak_add_if ?hx ?f1 ?f2 ?f3 ?_; (case hx => walk_at "ak lit"); (case f1 => walk_at "ak fit"); (case f2 => walk_at "ak fit"); (case f3 => walk_at "ak fit"); k_whole); try dsimp only))
local macro_rules | `(tactic| walk_at "binaryOp Sub float float") => `(tactic| (k_here; k_dflt (refine' ak_sub_ff ?hx ?hy ?f1 ?f2 ?f3 ?_; (case hx => walk_at "ak lit"); (case hy => walk_at "ak lit"); (case f1 => walk_at "ak fit"); (case f2 => walk_at "ak fit"); (case f3 => walk_at "ak fit"); k_whole); try dsimp only))
local macro_rules | `(tactic| walk_at "binaryOp Mod float int") => `(tactic| (k_here; k_dflt (refine' ak_mod_fi ?hx ?f1 ?f2 ?f3 ?f4 ?_; (case hx => walk_at "ak lit"); (case f1 => walk_at "ak fit"); (case f2 => walk_at "ak fit"); (case f3 => walk_at "ak int"); (case f4 => walk_at "ak int"); k_whole); try dsimp only))
local macro_rules | `(tactic| walk_at "binaryOp Div float int") => `(tactic| (k_here; k_dflt (refine' ak_div_fi ?hx ?f1 ?f2 ?_; (case hx => walk_at "ak lit"); (case f1 => walk_at "ak fit"); (case f2 => walk_at "ak int"); k_whole); try dsimp only))
local macro_rules | `(tactic| walk_at "call builtin:math.trunc") => `(tactic| (k_here; k_dflt (first
  | (refine' ak_trunc ?hx ?f1 ?f2 ?_; (case hx => walk_at "ak lit"); (case f1 => walk_at "ak fit"); (case f2 => walk_at "ak int"); k_whole)
  | (refine' ak_trunc_dv ?f1 ?f2 ?f3 ?f4 ?f5 ?f6 ?_; (case f1 => walk_at "ak fit"); (case f2 => walk_at "ak fit"); (case f3 => walk_at "ak int"); (case f4 => walk_at "ak int"); (case f5 => walk_at "ak int"); (case f6 => walk_at "ak int"); k_whole)); try dsimp only))
local macro_rules | `(tactic| walk_at "call type:int") => `(tactic| (k_here; (with_reducible show wpAny _ _ (call _ [Value.float _ _]) _ _ _); k_dflt (refine' ak_int ?hx ?f1 ?f2 ?_; (case hx => walk_at "ak lit"); (case f1 => walk_at "ak fit"); (case f2 => walk_at "ak int"); k_whole); try dsimp only))
local macro_rules | `(tactic| walk_at "compareOp Lt float int") => `(tactic| (k_here; k_dflt (refine' ak_lt_fi ?hx ?f1 ?_; (case hx => walk_at "ak lit"); (case f1 => walk_at "ak fit"); k_whole); try dsimp only))
local macro_rules | `(tactic| walk_at "compareOp Lt float float") => `(tactic| (k_here; k_dflt (refine' ak_lt_ff ?hx ?hy ?f1 ?f2 ?_; (case hx => walk_at "ak lit"); (case hy => walk_at "ak lit"); (case f1 => walk_at "ak fit"); (case f2 => walk_at "ak fit"); k_whole); try dsimp only))
local macro_rules | `(tactic| walk_at "compareOp NotEq float float") => `(tactic| (k_here; k_dflt (refine' ak_ne_ff ?hx ?hy ?f1 ?f2 ?_; (case hx => walk_at "ak lit"); (case hy => walk_at "ak lit"); (case f1 => walk_at "ak fit"); (case f2 => walk_at "ak fit"); k_whole); try dsimp only))
-- entering a def's contract
local macro_rules | `(tactic| walk_at "ak enter") => `(tactic| (unfold AkTells; k_fill; intro dp un gd cn cs a ccd cl outer A₀ base h₀ L m news s Q E B F X N T hk hd hu hret; refine wpAny_call ?_; k_dflt cell_enter))
-- calls by contracts
local macro_rules | `(tactic| walk_at "ak call") => `(tactic| ((case k1 => k_asm); (case k2 => k_asm); (case k3 => k_asm); (case k4 => k_asm); (case k5 => k_asm); (case kK => first | exact rfl | assumption); (case kd => ktr_room); (case ku => ktr_units)))
local macro_rules | `(tactic| walk_at "ak val") => `(tactic| (intro t9 h' tk' F' N'; (try dsimp only); (try k_sweep)))
local macro_rules | `(tactic| walk_at "ak two") => `(tactic| (intro D9 t9 u9 h' tk' F' N'; (try dsimp only); (try k_sweep)))
local macro_rules | `(tactic| walk_at "ak five") => `(tactic| (intro D9 t9 u9 v9 x9 y9 h' tk' F' N'; (try dsimp only); (try k_sweep)))
local macro_rules | `(tactic| walk_at "call ref") => `(tactic| (k_here; k_dflt (first
  | (refine' ak_useV (amod13_ok ?p1 ?p2) ?k1 ?k2 ?k3 ?k4 ?k5 ?kK ?kd ?ku ?_; (walk_at "ak call"); (case p1 => omega); (case p2 => omega); walk_at "ak val")
  | (refine' ak_useV (amod20_ok ?p1 ?p2) ?k1 ?k2 ?k3 ?k4 ?k5 ?kK ?kd ?ku ?_; (walk_at "ak call"); (case p1 => omega); (case p2 => omega); walk_at "ak val")
  | (refine' ak_useV (to_jd_mayan_ok ?p1 ?p2 ?p3 ?p4 ?p5) ?k1 ?k2 ?k3 ?k4 ?k5 ?kK ?kd ?ku ?_; (walk_at "ak call"); (case p1 => omega); (case p2 => omega); (case p3 => omega); (case p4 => omega); (case p5 => omega); walk_at "ak val")
  | (refine' ak_use5 (from_jd_mayan_ok ?p1 ?p2) ?k1 ?k2 ?k3 ?k4 ?k5 ?kK ?kd ?ku ?_; (walk_at "ak call"); (case p1 => omega); (case p2 => omega); walk_at "ak five")
  | (refine' ak_use2 (to_haab_ok ?p1 ?p2) ?k1 ?k2 ?k3 ?k4 ?k5 ?kK ?kd ?ku ?_; (walk_at "ak call"); (case p1 => omega); (case p2 => omega); walk_at "ak two"))))
-- names
local macro_rules | `(tactic| walk_at "ak name") => `(tactic| first | with_reducible rfl | exact pop_is.symm | assumption)
local macro_rules | `(tactic| walk_at "compareOp Eq str str") => `(tactic| (k_here; k_dflt (refine' ak_eq_pop ?f1 ?f2 ?_; (case f1 => omega); (case f2 => omega); k_whole); try dsimp only))
local macro_rules | `(tactic| walk_at "compareOp Eq str str") => `(tactic| (k_here; k_dflt (refine' ak_eq_str_ne ?hx ?hy ?f1 ?f2 ?f3 ?f4 ?f5 ?_; (case hx => walk_at "ak name"); (case hy => walk_at "ak name"); (case f1 => omega); (case f2 => omega); (case f3 => omega); (case f4 => omega); (case f5 => omega); k_whole); try dsimp only))
local macro_rules | `(tactic| walk_at "subscriptTail") => `(tactic| (k_here; (with_reducible show wpAny _ _ (subscriptTail _ _ (Value.ref _) (Value.int _ _)) _ _ _); ktb_letter; k_dflt (first
  | (refine' ak_item_h ?ktbl ?ktbw ?ktb0 ?ktb1 ?_; (case ktbl => ktb_isList); (case ktbw => repeat constructor); (case ktb0 => omega); (case ktb1 => omega))
  | (refine' ak_item_b ?ktbl ?ktbw ?ktb0 ?ktb1 ?_; (case ktbl => ktb_isList); (case ktbw => repeat constructor); (case ktb0 => omega); (case ktb1 => omega))); intro _; try dsimp only))
local macro_rules | `(tactic| walk_at "getMethod ref") => `(tactic| (k_here; (with_reducible show wpAny _ _ (getMethod (Value.ref _) (PySem.Str.ofString "index") _) _ _ _); k_dflt (first
  | (refine' ak_meth PySem.F.slot_list_index PySem.F.type_list_index ?X ?F ?l ?_; (case X => k_asm); (case F => k_asm); (case l => k_is))
  | (refine' ak_methN PySem.F.slot_list_index PySem.F.type_list_index ?N ?m ?_; (case N => k_asm); (case m => k_mem)))))
local macro_rules | `(tactic| walk_at "call builtin:list.index") => `(tactic| (k_here; (with_reducible show wpAny _ _ (call (Value.builtin _) [Value.ref _, Value.str _ _]) _ _ _); k_dflt (first
  | (refine' ak_index_b ?ktbl ?ktbw ?ktb0 ?ktb1 ?_; (case ktbl => ktb_isList); (case ktbw => repeat constructor); (case ktb0 => omega); (case ktb1 => omega))
  | (refine' ak_index_h ?ktbl ?ktbw ?ktbx ?ktb0 ?ktb1 ?_; (case ktbx => walk_at "ak name"); (case ktbl => ktb_isList); (case ktbw => repeat constructor); (case ktb0 => omega); (case ktb1 => omega))); try dsimp only))
local macro_rules | `(tactic| walk_at "compareOp NotIn str ref") => `(tactic| (k_here; k_dflt (refine' ak_notin_b ?ktbl ?ktbw ?ktb0 ?ktb1 ?_; (case ktbl => ktb_isList); (case ktbw => repeat constructor); (case ktb0 => omega); (case ktb1 => omega)); try dsimp only))
local macro_rules | `(tactic| walk_at "binaryOp Mod int int") => `(tactic| (k_here; k_dflt (refine' ak_mod_ii ?f1 ?_; (case f1 => first | decide | omega); k_whole); try dsimp only))
local macro_rules | `(tactic| walk_at "binaryOp FloorDiv int int") => `(tactic| (k_here; k_dflt (refine' ak_div_ii ?f1 ?f2 ?_; (case f1 => first | decide | omega); (case f2 => first | decide | omega); k_whole); try dsimp only))
local macro_rules | `(tactic| walk_at "call ref") => `(tactic| (k_here; k_dflt (first
  | (refine' ak_useV (haab_count_ok ?p1 ?p2) ?k1 ?k2 ?k3 ?k4 ?k5 ?kK ?kd ?ku ?_; (walk_at "ak call"); (case p1 => omega); (case p2 => omega); walk_at "ak val"))))
local macro_rules | `(tactic| walk_at "call ref") => `(tactic| (k_here; k_dflt (first
  | (refine' ak_use2 (to_tzolkin_ok ?p1 ?p2) ?k1 ?k2 ?k3 ?k4 ?k5 ?kK ?kd ?ku ?_; (walk_at "ak call"); (case p1 => omega); (case p2 => omega); walk_at "ak two"))))
local macro_rules | `(tactic| walk_at "call ref") => `(tactic| (k_here; k_dflt (first
  | (refine' ak_use2 (to_tzolkin_bear ?p1 ?p2 ?p3) ?k1 ?k2 ?k3 ?k4 ?k5 ?kK ?kd ?ku ?_; (walk_at "ak call"); (case p1 => omega); (case p2 => omega); (case p3 => omega); walk_at "ak two")
  | (refine' ak_useV (next_haab_ok (j := 0) ?hm ?p1 ?p2 ?p3 ?p4) ?k1 ?k2 ?k3 ?k4 ?k5 ?kK ?kd ?ku ?_; (case hm => walk_at "ak name"); (walk_at "ak call"); (case p1 => omega); (case p2 => omega); (case p3 => omega); (case p4 => omega); walk_at "ak val")
  | (refine' ak_use2 (to_haab_first (j := 0) ?p1 ?p2 ?p3) ?k1 ?k2 ?k3 ?k4 ?k5 ?kK ?kd ?ku ?_; (walk_at "ak call"); (case p1 => omega); (case p2 => omega); (case p3 => omega); walk_at "ak two"))))
-- a bound str.format, called with a star
local macro_rules | `(tactic| walk_at "eval Call Attribute") => `(tactic| (k_here; (with_reducible show wpAny _ _ (eval (Expr.Call (Expr.Attribute (Expr.Constant _ _ _) _ _) [Expr.Starred _ _] [] _) _) _ _ _); k_dflt (refine' star_method ?_); try dsimp only))
local macro_rules | `(tactic| walk_at "getAttr str") => `(tactic| (k_here; k_dflt (refine' fm_attrN ?F ?N ?_; (case F => k_asm); (case N => k_asm)); intro D9 h' tk' F' N'; (try dsimp only); (try k_sweep)))
local macro_rules | `(tactic| walk_at "callWith ref") => `(tactic| (k_here; (with_reducible show wpAny _ _ (callWith _ (Value.ref _) _ (backTo _ (starEach [Expr.Starred _ _] _)) []) _ _ _); k_dflt (refine' callWith_B ?N ?hm ?_; (case N => k_asm); (case hm => k_mem); k_whole)))
local macro_rules | `(tactic| walk_at "And") => `(tactic| ((with_reducible show AtB _ _ _ ∧ _); k_dflt (refine ⟨atB_of (by k_asm) (by k_mem), ?_⟩); (try dsimp only [List.nil_append, List.cons_append])))
local macro_rules | `(tactic| walk_at "call ref") => `(tactic| (k_here; (with_reducible show wpAny _ _ (call (Value.ref _) [Value.int _ _, Value.str _ _, Value.int _ _, Value.str _ _]) _ _ _); k_dflt (refine' bfm_format ?ho ?f1 ?f2 ?f3 ?f4 ?_; (case ho => exact News.get (by k_asm) (by k_mem)); (case f1 => omega); (case f2 => omega); (case f3 => first | exact tName_len _ | exact hName_len _); (case f4 => exact hName_len _)); intro t9 k9; (try dsimp only)))
-- the law's own calls and tests
local macro_rules | `(tactic| walk_at "ak three") => `(tactic| (intro D9 t9 u9 v9 h' tk' F' N'; (try dsimp only); (try k_sweep)))
local macro_rules | `(tactic| walk_at "call ref") => `(tactic| (k_here; k_dflt (first
  | (refine' ak_useV lc_zero ?k1 ?k2 ?k3 ?k4 ?k5 ?kK ?kd ?ku ?_; (walk_at "ak call"); walk_at "ak val")
  | (refine' ak_useV (next_haab_ok ?hm ?p1 ?p2 ?p3 ?p4) ?k1 ?k2 ?k3 ?k4 ?k5 ?kK ?kd ?ku ?_; (case hm => with_reducible rfl); (walk_at "ak call"); (case p1 => omega); (case p2 => omega); (case p3 => omega); (case p4 => omega); walk_at "ak val")
  | ((with_reducible show wpAny _ _ (call (Value.ref 122) [Value.int (_ / 144000) _, Value.int (_ % 144000 / 7200) _, _, _, _]) _ _ _); refine' ak_useV (lc_day ?p1 ?p2 ?p3) ?k1 ?k2 ?k3 ?k4 ?k5 ?kK ?kd ?ku ?_; (walk_at "ak call"); (case p1 => omega); (case p2 => omega); (case p3 => omega); walk_at "ak val")
  | ((with_reducible show wpAny _ _ (call (Value.ref 108) [Value.float (hf (1168565 + 2 * _ + 2 * (20 * _))) _]) _ _ _); refine' ak_use2 (to_haab_place ?p1 ?p2 ?p3) ?k1 ?k2 ?k3 ?k4 ?k5 ?kK ?kd ?ku ?_; (walk_at "ak call"); (case p1 => omega); (case p2 => omega); (case p3 => omega); walk_at "ak two")
  | ((with_reducible show wpAny _ _ (call (Value.ref 94) [Value.float (hf (1168565 + 2 * _ + 2 * _)) _]) _ _ _); refine' ak_use5 (from_jd_plus ?p1 ?p2) ?k1 ?k2 ?k3 ?k4 ?k5 ?kK ?kd ?ku ?_; (walk_at "ak call"); (case p1 => omega); (case p2 => omega); walk_at "ak five")
  | ((with_reducible show wpAny _ _ (call (Value.ref 94) [Value.float (hf (1168565 + 2 * _)) _]) _ _ _); refine' ak_use5 (from_jd_at ?p1) ?k1 ?k2 ?k3 ?k4 ?k5 ?kK ?kd ?ku ?_; (walk_at "ak call"); (case p1 => omega); walk_at "ak five")
  | (refine' ak_use3 greg_ok ?k1 ?k2 ?k3 ?k4 ?k5 ?kK ?kd ?ku ?_; (walk_at "ak call"); walk_at "ak three"))))
local macro_rules | `(tactic| walk_at "eval Call") => `(tactic| (k_here; refine Call_ ?_))
local macro_rules | `(tactic| walk_at "compareOp Lt float float") => `(tactic| (k_here; k_dflt (refine' ak_lt_tt ?hx ?hy ?f1 ?f2 ?f3 ?_; (case hx => walk_at "ak lit"); (case hy => walk_at "ak lit"); (case f1 => walk_at "ak fit"); (case f2 => walk_at "ak fit"); (case f3 => omega); k_whole); try dsimp only))
local macro_rules | `(tactic| walk_at "compareOp NotEq float float") => `(tactic| (k_here; k_dflt (refine' ak_ne_same ?hx ?hy ?f1 ?f2 ?f3 ?_; (case hx => walk_at "ak lit"); (case hy => walk_at "ak lit"); (case f1 => walk_at "ak fit"); (case f2 => walk_at "ak fit"); (case f3 => omega); k_whole); try dsimp only))
local macro_rules | `(tactic| walk_at "ak same") => `(tactic| first | with_reducible rfl | exact pop_is | exact bName_of (by omega) | exact hName_congr (by omega))
local macro_rules | `(tactic| walk_at "compareOp NotEq ref ref") => `(tactic| (k_here; k_dflt (refine' ak_ne_pair ?N ?m1 ?m2 ?hu ?ha ?hx ?ok ?_; (case N => k_asm); (case m1 => k_mem); (case m2 => k_mem); (case hu => ke_room); (case ha => omega); (case hx => walk_at "ak same"); (case ok => first | exact hName_ok _ | exact bName_ok _)); try dsimp only))
local macro_rules | `(tactic| walk_at "pyIter ref") => `(tactic| (k_here; (rename IsRange _ _ _ _ _ _ _ _ => rgX); (rename Fr _ _ _ _ => lF'); (rename News _ _ _ _ => lN'); k_dflt (refine' iter_law1 ?hh rgX lF' lN' ?hD ?turn ?done; (case hh => exact rfl); (case hD => k_mem)); (case' turn => (intro k9 t9 u1 u2 u3 u4 mr9 h9 tk9 own9 hk9 F9 N9; (try clear rgX); clear lF' lN'; try dsimp only)); (case' done => (intro u1 u2 u3 u4 mr9 h9 tk9 F9 N9; (try clear rgX); clear lF' lN'; try dsimp only))))
local macro_rules | `(tactic| walk_at "compareOp NotEq str str") => `(tactic| (k_here; k_dflt (refine' ak_ne_str ?hxy ?_; (case hxy => first | with_reducible rfl | exact text_is (by omega) (by omega))); try dsimp only))
local macro_rules | `(tactic| walk_at "binaryOp Add str str") => `(tactic| (k_here; (with_reducible show wpAny _ _ (binaryOp _ (Value.str _ _) (Value.str (bName _) _)) _ _ _); k_dflt (refine' ak_add_t1 ?f1 ?_; (case f1 => omega)); (intro t9 k9); (try dsimp only)))
local macro_rules | `(tactic| walk_at "binaryOp Add str str") => `(tactic| (k_here; (with_reducible show wpAny _ _ (binaryOp _ (Value.str (_ ++ bName _) _) (Value.str _ _)) _ _ _); k_dflt (refine' ak_add_t2 ?f1 ?_; (case f1 => omega)); (intro t9 k9); (try dsimp only)))
-- the comprehension over zip
local macro_rules | `(tactic| walk_at "eval ListComp") => `(tactic| (k_here; (with_reducible show wpAny _ _ (eval (Expr.ListComp (Expr.BinOp _ _ _ _) _ _ _) _) _ _ _); k_dflt (refine' zip_comp ?hh ?hclos ?hcell ?hkind ?hnames ?hxa ?hxb ?hab ?hda ?hdb ?_; (case hh => exact rfl); (case hclos => exact rfl); (case hcell => decide); (case hkind => exact rfl); (case hnames => decide); (case hxa => exact rfl); (case hxb => exact rfl); (case hab => first | decide | decide +kernel); (case hda => decide); (case hdb => decide))))
local macro_rules | `(tactic| walk_at "call type:zip") => `(tactic| (k_here; k_dflt (refine' zip_src ?F ?N ?m1 ?m2 ?i1 ?i2 ?hl ?hz ?_; (case F => k_asm); (case N => k_asm); (case m1 => k_mem); (case m2 => k_mem); (case i1 => repeat constructor); (case i2 => repeat constructor); (case hl => exact rfl); (case hz => exact Nat.le_of_ble_eq_true rfl)); (intro D9 us9 h' tk' hu9 F' N'); (obtain ⟨t5, t6, t7, t8, t9, e9⟩ := zip5_inv hu9); (subst e9); (clear hu9); (try dsimp only)))
local macro_rules | `(tactic| walk_at "call builtin:abs") => `(tactic| (k_here; k_dflt (refine' ak_abs ?ha ?_; (case ha => omega)); (intro d9 u9 tk9 hd9); (try dsimp only)))
local macro_rules | `(tactic| walk_at "compareOp NotEq float float") => `(tactic| (k_here; (with_reducible show wpAny _ _ (compareOp _ (Value.float (hf (1168565 + 2 * (_ * 144000 + _ + _ + _ + _))) _) _) _ _ _); k_dflt (refine' ak_ne_same ?hx ?hy ?f1 ?f2 ?f3 ?_; (case hx => with_reducible rfl); (case hy => with_reducible rfl); (case f1 => rw [jd_sum]; unfold Fit; omega); (case f2 => walk_at "ak fit"); (case f3 => exact jd_sum _ _); k_whole); try dsimp only))
local macro_rules | `(tactic| walk_at "compareOp Eq ref ref") => `(tactic| (k_here; k_dflt (refine' ak_eq_five ?N ?m1 ?m2 ?hu ?hc ?_; (case N => k_asm); (case m1 => k_mem); (case m2 => k_mem); (case hu => ke_room); (case hc => exact carry_ends _ _)); try dsimp only))

theorem PySem.Challenge.cw_ak5013_01_holds : PySem.Challenge.rw_ak5013_01.Holds :=
  hd (by
  k_go0
  all_goals try k_fold
  -- numbers
  repeat' ((fail_if_success (with_reducible show wpAny _ _ (execs (PySem.Stmt.If (PySem.Expr.BoolOp _ _ _) _ _ _ :: _) _) _ _ _)); first | (k_unfold; (try dsimp only)) | (k_end; wrow_close) | walk1 | (dsimp only; walk1) | (leave1; walk_say "STEP leave1"; try dsimp only))
  rename IntsAre _ (_ ++ _) => hI0
  obtain ⟨a0, a1, a2, t0, t1, t2, wr, hw, hwr, hb0, hb1, hb2⟩ := nums_shape hI0 (by intro k; omega)
  subst hw
  clear hI0
  -- start
  repeat' ((fail_if_success (with_reducible show wpAny _ _ (execs (PySem.Stmt.If _ [PySem.Stmt.AugAssign _ _ _ _] _ _ :: _) _) _ _ _)); first | (k_unfold; (try dsimp only)) | (k_end; wrow_close) | walk1 | (dsimp only; walk1) | (leave1; walk_say "STEP leave1"; try dsimp only))
  rename Fr _ _ _ _ => F0
  rename News _ _ _ _ => N0
  refine cut_start F0 N0 ?h1 ?h2
  case h1 =>
    k_steps
    all_goals (rename Fr _ _ _ _ => F1; rename News _ _ _ _ => N1)
    all_goals (first
      | (refine' mid_start F1 N1 ?hm ?hn ?g1 ?g2 ?g3; (case hm => exact rfl); (case hn => intro p hp; first | exact hp | exact .tail _ hp); (case g1 => omega); (case g2 => omega); (case g3 => omega))
      | (refine' mid_start F1 N1 ?hm ?hn ?g1 ?g2 ?g3; (case hm => funext y; by_cases hy : y = Str.ofString "start"; (rw [if_pos hy, if_pos hy]); (rw [if_neg hy, if_neg hy])); (case hn => intro p hp; first | exact hp | exact .tail _ hp); (case g1 => omega); (case g2 => omega); (case g3 => omega)))
  case h2 =>
    intro x t h9 tk9 hx hxo hx20 F9 N9
    clear F0 N0
    try k_sweep
    repeat' ((fail_if_success (with_reducible show wpAny _ _ (execs (PySem.Stmt.For _ _ _ _ _ :: _) _) _ _ _)); first | (k_unfold; (try dsimp only)) | (k_end; wrow_close) | walk1 | (dsimp only; walk1) | (leave1; walk_say "STEP leave1"; try dsimp only))
    dsimp only
    rename Fr _ _ _ _ => F1
    rename News _ _ _ _ => N1
    obtain ⟨n, mr, hn, hn1, hn5, F2, N2⟩ := mid_loop F1 N1 rfl rfl rfl rfl rfl (by k_mem) (by omega) (by omega) (by omega) (by omega)
    clear F1 N1 hx hxo hx20
    refine cut_loop F2 N2 ?l1 ?l2
    case l1 =>
      k_steps
      all_goals (rename Fr _ _ _ _ => F3; rename News _ _ _ _ => N3)
      all_goals (first
        | (refine' mid_end F3 N3 rfl rfl rfl rfl ?hD; (case hD => k_mem))
        | (refine' mid_turn F3 N3 rfl rfl rfl rfl rfl ?hb ?hD; (case hb => omega); (case hD => intro p hp; repeat (first | exact hp | apply List.Mem.tail))))
    case l2 =>
      clear F2 N2
      intro v1 v2 v3 mr2 h2 tk2 F4 N4
      refine cut_loop F4 N4 ?l3 ?l4
      case l3 =>
        k_steps
        all_goals (rename Fr _ _ _ _ => F3; rename News _ _ _ _ => N3)
        all_goals (refine' mid_end F3 N3 rfl rfl rfl rfl ?hD; (case hD => k_mem))
      case l4 =>
        clear F4 N4
        intro v4 v5 v6 mr3 h3 tk3 F5 N5
        k_steps)
