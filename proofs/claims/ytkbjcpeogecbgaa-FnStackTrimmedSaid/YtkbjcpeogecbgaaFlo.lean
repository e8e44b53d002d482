/-
  Floats of 64 bits: what a rounded number stands for, and how far it lies from the exact one. Plain lemmas over the format; no condition.
-/
import Ieee.Arith
namespace Go.Proofs.Ytkbjcpeogecbgaa
open Ieee

/-- 2 to an integer's power. -/
def p2 (i : Int) : Rat := (2 : Rat) ^ i
theorem p2_pos (i : Int) : 0 < p2 i := Rat.zpow_pos (by decide)
theorem p2_ne (i : Int) : p2 i ≠ 0 := Rat.ne_of_gt (p2_pos i)
theorem p2_add (i j : Int) : p2 (i + j) = p2 i * p2 j := Rat.zpow_add (by decide) i j
theorem p2_nat (n : Nat) : p2 (n : Int) = ((2 ^ n : Nat) : Rat) := by
  show (2 : Rat) ^ (n : Int) = _
  rw [Rat.zpow_natCast]; simp
theorem p2_succ (i : Int) : p2 (i + 1) = 2 * p2 i := by rw [p2_add, Rat.mul_comm]; congr 1

theorem p2_s {i j : Int} (h : j = i + 1) : p2 j = 2 * p2 i := by rw [h, p2_succ]
/-- What a number of the format is. -/
def rv (neg : Bool) (m : Nat) (i : Int) : Rat := if neg then -((m : Rat) * p2 i) else (m : Rat) * p2 i

theorem cut_near (neg : Bool) (n d : Nat) : 2 * (Toward.even.cut neg n d * 2 ^ d) ≤ 2 * n + 2 ^ d ∧ 2 * n ≤ 2 * (Toward.even.cut neg n d * 2 ^ d) + 2 ^ d := by
  unfold Toward.cut
  simp only [Nat.shiftLeft_eq, Nat.one_mul]
  rcases Nat.lt_or_ge (n.log2 + 2) d with h | h
  · rw [Nat.min_eq_right (by omega)]
    have h1 : n < 2 ^ (n.log2 + 1) := Nat.lt_log2_self
    have h2 : 2 ^ (n.log2 + 2) = 2 * 2 ^ (n.log2 + 1) := by rw [Nat.pow_succ]; omega
    have h3 : n / 2 ^ (n.log2 + 2) = 0 := Nat.div_eq_of_lt (by omega)
    have h4 : n % 2 ^ (n.log2 + 2) = n := Nat.mod_eq_of_lt (by omega)
    rw [h3, h4]
    have h5 : (decide (2 ^ (n.log2 + 2) < 2 * n) || 2 ^ (n.log2 + 2) == 2 * n && 0 % 2 == 1) = false := by simp; omega
    have h6 : 2 ^ (n.log2 + 2) ≤ 2 ^ d := Nat.pow_le_pow_right (by omega) (by omega)
    rw [h5]
    simp
    omega
  · rw [Nat.min_eq_left h]
    have hp : 0 < 2 ^ d := Nat.pow_pos (by omega)
    generalize hg : 2 ^ d = g at *
    have hd := Nat.div_add_mod n g
    have hm := Nat.mod_lt n hp
    generalize n / g = q at *
    generalize n % g = r at *
    have e : (q + 1) * g = q * g + g := by rw [Nat.add_mul, Nat.one_mul]
    have e0 : g * q = q * g := Nat.mul_comm _ _
    cases hb : (decide (g < 2 * r) || g == 2 * r && q % 2 == 1)
    · simp at hb
      simp only [Bool.toNat_false, Nat.add_zero]
      omega
    · simp at hb
      simp only [Bool.toNat_true, e]
      omega

theorem cut_zero (neg : Bool) (n : Nat) : Toward.even.cut neg n 0 = n := by
  have := cut_near neg n 0
  simp at this
  unfold Toward.cut
  simp [Nat.shiftLeft_eq, Nat.mod_one]

theorem dbl_place : double.leastPlace = -1074 := by decide
theorem dbl_bin : double.binade = 4503599627370496 := by decide
theorem dbl_inf : double.infRung = 9218868437227405312 := by decide
theorem dbl_sign : double.signWeight = 9223372036854775808 := by decide
theorem dbl_frac : double.fractionBits = 52 := rfl

/-- What the word of a sign and a rung reads as. -/
theorem read_word (neg : Bool) (r : Nat) (h : r < 9218868437227405312) :
    double.read (double.word neg r) = if r < 4503599627370496 then .number neg r (-1074) else .number neg (4503599627370496 + r % 4503599627370496) (-1074 + (r / 4503599627370496 - 1 : Nat)) := by
  unfold Format.read Format.word
  rw [dbl_place, dbl_bin, dbl_inf, dbl_sign]
  cases neg
  · have h1 : r / 9223372036854775808 = 0 := Nat.div_eq_of_lt (by omega)
    have h2 : r % 9223372036854775808 = r := Nat.mod_eq_of_lt (by omega)
    simp only [Bool.false_eq_true, if_false, h1, h2]
    by_cases hb : r < 4503599627370496
    · simp [hb]
    · simp [hb, h]
  · have h1 : (9223372036854775808 + r) / 9223372036854775808 = 1 := by omega
    have h2 : (9223372036854775808 + r) % 9223372036854775808 = r := by omega
    simp only [if_true, h1, h2]
    by_cases hb : r < 4503599627370496
    · simp [hb]
    · simp [hb, h]

/-- A rung that is L binades up, with so many units in it. -/
theorem read_rung (neg : Bool) (L k : Nat) (hk : k ≤ 9007199254740992) (hl : 4503599627370496 ≤ k ∨ L = 0) (h : L * 4503599627370496 + k < 9218868437227405312) :
    ∃ m i, double.read (double.word neg (L * 4503599627370496 + k)) = .number neg m i ∧ rv neg m i = rv neg k ((L : Int) - 1074) ∧ m < 9007199254740992 ∧ -1074 ≤ i ∧ (i = (L : Int) - 1074 ∧ m = k ∨ k = 9007199254740992 ∧ i = (L : Int) - 1073 ∧ m = 4503599627370496) := by
  rw [read_word _ _ h]
  by_cases hs : L * 4503599627370496 + k < 4503599627370496
  · have hL : L = 0 := by omega
    subst hL
    refine ⟨k, -1074, ?_, ?_, by omega, by omega, .inl ⟨by omega, rfl⟩⟩
    · rw [if_pos hs]; simp
    · congr 1
  · rw [if_neg hs]
    rcases Nat.lt_or_ge k 9007199254740992 with h1 | h1
    · have hk2 : 4503599627370496 ≤ k := by omega
      have e1 : (L * 4503599627370496 + k) % 4503599627370496 = k - 4503599627370496 := by omega
      have e2 : (L * 4503599627370496 + k) / 4503599627370496 = L + 1 := by omega
      refine ⟨_, _, rfl, ?_, ?_, ?_, .inl ⟨?_, ?_⟩⟩
      · rw [e1, e2]
        have ea : 4503599627370496 + (k - 4503599627370496) = k := by omega
        have eb : (-1074 + ((L + 1 - 1 : Nat) : Int)) = (L : Int) - 1074 := by omega
        rw [ea, eb]
      · omega
      · rw [e2]; omega
      · rw [e2]; omega
      · rw [e1]; omega
    · obtain rfl : k = 9007199254740992 := by omega
      have e1 : (L * 4503599627370496 + 9007199254740992) % 4503599627370496 = 0 := by omega
      have e2 : (L * 4503599627370496 + 9007199254740992) / 4503599627370496 = L + 2 := by omega
      refine ⟨_, _, rfl, ?_, ?_, ?_, .inr ⟨rfl, ?_, ?_⟩⟩
      · rw [e1, e2]
        have e3 : (-1074 + ((L + 2 - 1 : Nat) : Int)) = ((L : Int) - 1074) + 1 := by omega
        rw [e3]
        have e4 : (((4503599627370496 + 0 : Nat)) : Rat) * p2 ((L : Int) - 1074 + 1) = ((9007199254740992 : Nat) : Rat) * p2 ((L : Int) - 1074) := by
          rw [p2_succ]
          have h2 : (9007199254740992 : Nat) = (4503599627370496 + 0) * 2 := rfl
          have : ((9007199254740992 : Nat) : Rat) = ((4503599627370496 + 0 : Nat) : Rat) * 2 := by rw [h2, Rat.natCast_mul]; rfl
          rw [this]; grind
        unfold rv
        rw [e4]
      · omega
      · rw [e2]; omega
      · rw [e2]; omega
      · rw [e1]

/-- How a number is rounded: to so many units of the last place. -/
theorem nearest_spec (neg : Bool) (m : Nat) (i last : Int) (hm : 0 < m) (hl : last = max (i + (m.log2 : Int) - 52) (-1074)) :
    ∃ k : Nat, k ≤ 9007199254740992 ∧ (4503599627370496 ≤ k ∨ last = -1074) ∧ 2 * ((k : Rat) * p2 last) ≤ 2 * ((m : Rat) * p2 i) + p2 last ∧ 2 * ((m : Rat) * p2 i) ≤ 2 * ((k : Rat) * p2 last) + p2 last ∧
      (last ≤ i → (k : Rat) * p2 last = (m : Rat) * p2 i) ∧
      double.nearest neg m i = double.word neg (min ((last + 1074).toNat * 4503599627370496 + k) 9218868437227405312) := by
  have h1 : m < 2 ^ (m.log2 + 1) := Nat.lt_log2_self
  have h0 : 2 ^ m.log2 ≤ m := Nat.log2_self_le (by omega)
  refine ⟨Toward.even.cut neg (m <<< (i - last).toNat) (last - i).toNat, ?_⟩
  have hn : double.nearest neg m i = double.word neg (min ((last + 1074).toNat * 4503599627370496 + Toward.even.cut neg (m <<< (i - last).toNat) (last - i).toNat) 9218868437227405312) := by
    unfold Format.nearest
    rw [if_neg (by omega), dbl_place, dbl_bin, dbl_inf, dbl_frac]
    simp only [Int.cast_ofNat_Int]
    rw [← hl]
    rfl
  rw [hn]
  have hge : i + (m.log2 : Int) - 52 ≤ last := by omega
  rcases Int.lt_or_le last i with h | h
  · -- exact
    obtain ⟨a, ha⟩ : ∃ a : Nat, i = last + a := ⟨(i - last).toNat, by omega⟩
    have ea : (i - last).toNat = a := by omega
    have eb : (last - i).toNat = 0 := by omega
    rw [ea, eb, cut_zero, Nat.shiftLeft_eq]
    have hv : ((m * 2 ^ a : Nat) : Rat) * p2 last = (m : Rat) * p2 i := by
      rw [ha, p2_add, p2_nat, Rat.natCast_mul]; grind
    have hp := p2_pos last
    have hb : m * 2 ^ a < 2 ^ 53 := by
      have : m * 2 ^ a < 2 ^ (m.log2 + 1) * 2 ^ a := Nat.mul_lt_mul_of_pos_right h1 (Nat.pow_pos (by omega))
      rw [← Nat.pow_add] at this
      exact Nat.lt_of_lt_of_le this (Nat.pow_le_pow_right (by omega) (by omega))
    refine ⟨by omega, ?_, by rw [hv]; grind, by rw [hv]; grind, fun _ => hv, rfl⟩
    by_cases hlt : last = -1074
    · exact .inr hlt
    · left
      have e : m.log2 + a = 52 := by omega
      have : 2 ^ m.log2 * 2 ^ a ≤ m * 2 ^ a := Nat.mul_le_mul_right _ h0
      rw [← Nat.pow_add, e] at this
      omega
  · obtain ⟨b, hb⟩ : ∃ b : Nat, last = i + b := ⟨(last - i).toNat, by omega⟩
    have ea : (i - last).toNat = 0 := by omega
    have eb : (last - i).toNat = b := by omega
    rw [ea, eb, Nat.shiftLeft_eq, Nat.pow_zero, Nat.mul_one]
    have hc := cut_near neg m b
    generalize Toward.even.cut neg m b = k at hc ⊢
    obtain ⟨c1, c2⟩ := hc
    have hpb : 0 < 2 ^ b := Nat.pow_pos (by omega)
    have hp := p2_pos i
    have hv : (k : Rat) * p2 last = ((k * 2 ^ b : Nat) : Rat) * p2 i := by
      rw [hb, p2_add, p2_nat, Rat.natCast_mul]; grind
    have hq : p2 last = ((2 ^ b : Nat) : Rat) * p2 i := by
      rw [hb, p2_add, p2_nat]; grind
    refine ⟨?_, ?_, ?_, ?_, ?_, rfl⟩
    · have : m < 2 ^ (b + 53) := Nat.lt_of_lt_of_le h1 (Nat.pow_le_pow_right (by omega) (by omega))
      rw [Nat.pow_add] at this
      generalize 2 ^ b = g at *
      rcases Nat.lt_or_ge 9007199254740992 k with hk | hk
      · have : 9007199254740993 * g ≤ k * g := Nat.mul_le_mul_right _ hk
        omega
      · exact hk
    · by_cases hlt : last = -1074
      · exact .inr hlt
      · left
        have e : m.log2 = b + 52 := by omega
        rw [e, Nat.pow_add] at h0
        generalize 2 ^ b = g at *
        rcases Nat.lt_or_ge k 4503599627370496 with hk | hk
        · have : k * g ≤ 4503599627370495 * g := Nat.mul_le_mul_right _ (by omega)
          omega
        · exact hk
    · rw [hv, hq]
      have : ((2 * (k * 2 ^ b) : Nat) : Rat) ≤ ((2 * m + 2 ^ b : Nat) : Rat) := Rat.natCast_le_natCast.2 c1
      have h3 := Rat.mul_le_mul_of_nonneg_right this (Rat.le_of_lt hp)
      simp only [Rat.natCast_mul, Rat.natCast_add] at h3 ⊢
      grind
    · rw [hv, hq]
      have : ((2 * m : Nat) : Rat) ≤ ((2 * (k * 2 ^ b) + 2 ^ b : Nat) : Rat) := Rat.natCast_le_natCast.2 c2
      have h3 := Rat.mul_le_mul_of_nonneg_right this (Rat.le_of_lt hp)
      simp only [Rat.natCast_mul, Rat.natCast_add] at h3 ⊢
      grind
    · intro hle
      have hb0 : b = 0 := by omega
      subst hb0
      simp at c1 c2
      have : k = m := by omega
      subst this
      have : last = i := by omega
      rw [this]

theorem p2_le {i j : Int} (h : i ≤ j) : p2 i ≤ p2 j := by
  obtain ⟨n, rfl⟩ : ∃ n : Nat, j = i + n := ⟨(j - i).toNat, by omega⟩
  rw [p2_add, p2_nat]
  have h1 : ((1 : Nat) : Rat) ≤ ((2 ^ n : Nat) : Rat) := Rat.natCast_le_natCast.2 (Nat.pow_pos (by omega))
  have h2 := Rat.mul_le_mul_of_nonneg_left h1 (Rat.le_of_lt (p2_pos i))
  have h3 : ((1 : Nat) : Rat) = 1 := rfl
  rw [h3] at h2
  grind
theorem p2_lt_iff {i j : Int} (h : p2 i < p2 j) : i < j := by
  rcases Int.lt_or_le i j with h1 | h1
  · exact h1
  · exact absurd (p2_le h1) (Rat.not_le.2 h)
theorem p2_log {m : Nat} {i : Int} (hm : 0 < m) : p2 (i + m.log2) ≤ (m : Rat) * p2 i ∧ (m : Rat) * p2 i < p2 (i + m.log2 + 1) := by
  have h1 : m < 2 ^ (m.log2 + 1) := Nat.lt_log2_self
  have h0 : 2 ^ m.log2 ≤ m := Nat.log2_self_le (by omega)
  have hp := p2_pos i
  constructor
  · rw [p2_add, p2_nat, Rat.mul_comm]
    exact Rat.mul_le_mul_of_nonneg_right (Rat.natCast_le_natCast.2 h0) (Rat.le_of_lt hp)
  · have e : i + (m.log2 : Int) + 1 = i + ((m.log2 + 1 : Nat) : Int) := by omega
    rw [e, p2_add, p2_nat, Rat.mul_comm (p2 i)]
    exact Rat.mul_lt_mul_of_pos_right (Rat.natCast_lt_natCast.2 h1) hp

/-- A number that is not too great, rounded. -/
theorem near (neg : Bool) (m : Nat) (i : Int) (hm : 0 < m) (hv : (m : Rat) * p2 i < p2 1023) :
    ∃ M P, double.read (double.nearest neg m i) = .number neg M P ∧ M < 9007199254740992 ∧ -1074 ≤ P ∧
      (M : Rat) * p2 P ≤ (m : Rat) * p2 i + ((m : Rat) * p2 i * p2 (-53) + p2 (-1075)) ∧ (m : Rat) * p2 i ≤ (M : Rat) * p2 P + ((m : Rat) * p2 i * p2 (-53) + p2 (-1075)) ∧
      (p2 (-1022) ≤ (m : Rat) * p2 i → (M : Rat) * p2 P ≤ (m : Rat) * p2 i + (m : Rat) * p2 i * p2 (-53) ∧ (m : Rat) * p2 i ≤ (M : Rat) * p2 P + (m : Rat) * p2 i * p2 (-53)) ∧
      (-1074 ≤ i → i + (m.log2 : Int) - 52 ≤ i → (M : Rat) * p2 P = (m : Rat) * p2 i) := by
  obtain ⟨last, hl⟩ : ∃ last, last = max (i + (m.log2 : Int) - 52) (-1074) := ⟨_, rfl⟩
  obtain ⟨k, hk, hlow, h1, h2, h3, hn⟩ := nearest_spec neg m i last hm hl
  obtain ⟨g0, g1⟩ := p2_log (i := i) hm
  have hlt : i + (m.log2 : Int) < 1023 := p2_lt_iff (Std.lt_of_le_of_lt g0 hv)
  have hL : ((last + 1074).toNat : Int) = last + 1074 := by omega
  generalize (last + 1074).toNat = L at hn hL
  have hov : L * 4503599627370496 + k < 9218868437227405312 := by omega
  rw [Nat.min_eq_left (by omega)] at hn
  obtain ⟨M, P, hr, he, hM, hP, _⟩ := read_rung neg L k hk (by omega) hov
  have hPL : (L : Int) - 1074 = last := by omega
  rw [hPL] at he
  have heq : (M : Rat) * p2 P = (k : Rat) * p2 last := by
    unfold rv at he
    cases neg <;> simp at he <;> grind
  refine ⟨M, P, by rw [hn]; exact hr, hM, hP, ?_, ?_, ?_, ?_⟩
  · rw [heq]
    have hp := p2_pos last
    have hb : p2 last ≤ 2 * ((m : Rat) * p2 i * p2 (-53) + p2 (-1075)) := by
      rcases Int.le_total (i + (m.log2 : Int) - 52) (-1074) with hc | hc
      · have : last = -1075 + 1 := by omega
        rw [this, p2_succ]
        have := Rat.mul_nonneg (Rat.mul_nonneg (Rat.natCast_nonneg (a := m)) (Rat.le_of_lt (p2_pos i))) (Rat.le_of_lt (p2_pos (-53)))
        grind
      · have e : last = (i + (m.log2 : Int) + -53) + 1 := by omega
        rw [e, p2_succ, p2_add _ (-53)]
        have := Rat.mul_le_mul_of_nonneg_right g0 (Rat.le_of_lt (p2_pos (-53)))
        have := p2_pos (-1075)
        grind
    grind
  · rw [heq]
    have hp := p2_pos last
    have hb : p2 last ≤ 2 * ((m : Rat) * p2 i * p2 (-53) + p2 (-1075)) := by
      rcases Int.le_total (i + (m.log2 : Int) - 52) (-1074) with hc | hc
      · have : last = -1075 + 1 := by omega
        rw [this, p2_succ]
        have := Rat.mul_nonneg (Rat.mul_nonneg (Rat.natCast_nonneg (a := m)) (Rat.le_of_lt (p2_pos i))) (Rat.le_of_lt (p2_pos (-53)))
        grind
      · have e : last = (i + (m.log2 : Int) + -53) + 1 := by omega
        rw [e, p2_succ, p2_add _ (-53)]
        have := Rat.mul_le_mul_of_nonneg_right g0 (Rat.le_of_lt (p2_pos (-53)))
        have := p2_pos (-1075)
        grind
    grind
  · intro hbig
    have : (-1022 : Int) < i + (m.log2 : Int) + 1 := p2_lt_iff (Std.lt_of_le_of_lt hbig g1)
    have e : last = (i + (m.log2 : Int) + -53) + 1 := by omega
    have hb : p2 last ≤ 2 * ((m : Rat) * p2 i * p2 (-53)) := by
      rw [e, p2_succ, p2_add _ (-53)]
      have := Rat.mul_le_mul_of_nonneg_right g0 (Rat.le_of_lt (p2_pos (-53)))
      grind
    rw [heq]
    grind
  · intro ha hb
    rw [heq]
    exact h3 (by omega)

/-- The root, digit by digit. -/
theorem rootFrom_spec (n : Nat) : ∀ (t r : Nat), r * r ≤ n → n < (r + 2 ^ t) * (r + 2 ^ t) → Datum.rootFrom n t r * Datum.rootFrom n t r ≤ n ∧ n < (Datum.rootFrom n t r + 1) * (Datum.rootFrom n t r + 1)
  | 0, r, h1, h2 => by
    unfold Datum.rootFrom
    exact ⟨h1, by simpa using h2⟩
  | t + 1, r, h1, h2 => by
    unfold Datum.rootFrom
    have e : r + 1 <<< t = r + 2 ^ t := by rw [Nat.shiftLeft_eq]; simp
    simp only [e]
    split
    · rename_i h
      refine rootFrom_spec n t _ h ?_
      have : r + 2 ^ t + 2 ^ t = r + 2 ^ (t + 1) := by rw [Nat.pow_succ]; omega
      rw [this]; exact h2
    · rename_i h
      exact rootFrom_spec n t _ h1 (by omega)

theorem root_whole (n : Nat) : Datum.rootFrom n (n.log2 / 2 + 1) 0 * Datum.rootFrom n (n.log2 / 2 + 1) 0 ≤ n ∧ n < (Datum.rootFrom n (n.log2 / 2 + 1) 0 + 1) * (Datum.rootFrom n (n.log2 / 2 + 1) 0 + 1) := by
  refine rootFrom_spec n _ 0 (by simp) ?_
  have h1 : n < 2 ^ (n.log2 + 1) := Nat.lt_log2_self
  have : (0 + 2 ^ (n.log2 / 2 + 1)) * (0 + 2 ^ (n.log2 / 2 + 1)) = 2 ^ ((n.log2 / 2 + 1) + (n.log2 / 2 + 1)) := by rw [Nat.zero_add, ← Nat.pow_add]
  rw [this]
  exact Nat.lt_of_lt_of_le h1 (Nat.pow_le_pow_right (by omega) (by omega))

theorem root_ar1 (n S s : Nat) (w2 : n < S + 2 * s + 1) (h3 : 18014398509481984 * s ≤ S) (_hS : S ≤ n) : 4 * n * 9007199254740992 ≤ (4 * S + 4 * s + 1) * 9007199254740992 + 4 * n := by omega
/-- The root as it is handed on to be rounded: its square is near. -/
theorem root_spec (m : Nat) (i : Int) (hm : 0 < m) : ∃ R J, Datum.root 54 (.number false m i) = some (.number false R J) ∧ 0 < R ∧
    ((R : Rat) * p2 J) * ((R : Rat) * p2 J) ≤ (m : Rat) * p2 i + (m : Rat) * p2 i * p2 (-53) ∧ (m : Rat) * p2 i ≤ ((R : Rat) * p2 J) * ((R : Rat) * p2 J) + (m : Rat) * p2 i * p2 (-53) := by
  unfold Datum.root
  simp only [if_neg (show ¬ m = 0 by omega), Bool.false_eq_true, if_false]
  obtain ⟨a, ha⟩ : ∃ a : Nat, a = 2 * 54 - m.log2 + ((i - ((2 * 54 - m.log2 : Nat) : Int)) % 2).toNat := ⟨_, rfl⟩
  rw [← ha]
  have ha1 : 108 ≤ a + m.log2 := by omega
  have ha2 : (i - a) % 2 = 0 := by omega
  obtain ⟨j, hj⟩ : ∃ j, i - (a : Int) = 2 * j := ⟨(i - a) / 2, by omega⟩
  have hj2 : (i - (a : Int)) / 2 = j := by omega
  rw [hj2, Nat.shiftLeft_eq]
  obtain ⟨n, hn⟩ : ∃ n, n = m * 2 ^ a := ⟨_, rfl⟩
  rw [← hn]
  have hnb : 2 ^ 108 ≤ n := by
    have h0 : 2 ^ m.log2 ≤ m := Nat.log2_self_le (by omega)
    have h1 : 2 ^ m.log2 * 2 ^ a ≤ m * 2 ^ a := Nat.mul_le_mul_right _ h0
    rw [← Nat.pow_add, ← hn] at h1
    exact Nat.le_trans (Nat.pow_le_pow_right (by omega) (by omega)) h1
  obtain ⟨w1, w2⟩ := root_whole n
  generalize Datum.rootFrom n (n.log2 / 2 + 1) 0 = s at w1 w2 ⊢
  have hs : 2 ^ 54 ≤ s := by
    rcases Nat.lt_or_ge s (2 ^ 54) with h | h
    · have : (s + 1) * (s + 1) ≤ 2 ^ 54 * 2 ^ 54 := Nat.mul_le_mul h h
      have e : (2 : Nat) ^ 54 * 2 ^ 54 = 2 ^ 108 := by decide
      omega
    · exact h
  refine ⟨_, _, rfl, by omega, ?_⟩
  have hx : (m : Rat) * p2 i = (n : Rat) * (p2 j * p2 j) := by
    have e : i = (a : Int) + (j + j) := by omega
    rw [hn, Rat.natCast_mul, e, p2_add, p2_add, p2_nat]; grind
  have hpj : p2 j = 2 * p2 (j - 1) := by
    have e : j = (j - 1) + 1 := by omega
    have := p2_succ (j - 1)
    rwa [← e] at this
  have key : ∀ R : Nat, (R : Rat) * p2 (j - 1) * ((R : Rat) * p2 (j - 1)) = ((R * R : Nat) : Rat) * (p2 (j - 1) * p2 (j - 1)) := by
    intro R; rw [Rat.natCast_mul]; grind
  have hq := Rat.mul_pos (p2_pos (j - 1)) (p2_pos (j - 1))
  have h53 : p2 (-53) * ((9007199254740992 : Nat) : Rat) = 1 := by
    have := p2_add (-53) (53 : Nat)
    rw [p2_nat] at this
    exact this.symm
  rw [key, hx, hpj]
  generalize p2 (j - 1) = q at *
  -- integers
  obtain ⟨R, hR⟩ : ∃ R, R = 2 * s + (s * s != n).toNat := ⟨_, rfl⟩
  rw [← hR]
  have b1 : R * R * 9007199254740992 ≤ 4 * n * 9007199254740992 + 4 * n := by
    cases hb : s * s != n
    · simp at hb
      rw [hb] at hR
      simp at hR
      subst hR
      have : 2 * s * (2 * s) = 4 * n := by rw [← hb]; grind
      omega
    · rw [hb] at hR
      simp at hR
      have : R * R = 4 * (s * s) + 4 * s + 1 := by rw [hR]; grind
      have h3 : (2 ^ 54) * s ≤ s * s := Nat.mul_le_mul_right _ hs
      omega
  have b2 : 4 * n * 9007199254740992 ≤ R * R * 9007199254740992 + 4 * n := by
    have e2 : (s + 1) * (s + 1) = s * s + 2 * s + 1 := by grind
    rw [e2] at w2
    cases hb : s * s != n
    · simp at hb
      rw [hb] at hR
      simp at hR
      subst hR
      have : 2 * s * (2 * s) = 4 * n := by rw [← hb]; grind
      rw [this]; exact Nat.le_add_right _ _
    · rw [hb] at hR
      simp at hR
      have : R * R = 4 * (s * s) + 4 * s + 1 := by rw [hR]; grind
      have h3 : (2 ^ 54) * s ≤ s * s := Nat.mul_le_mul_right _ hs
      rw [this]; exact root_ar1 n _ s w2 h3 w1
  have c1 : ((R * R * 9007199254740992 : Nat) : Rat) ≤ ((4 * n * 9007199254740992 + 4 * n : Nat) : Rat) := Rat.natCast_le_natCast.2 b1
  have c2 : ((4 * n * 9007199254740992 : Nat) : Rat) ≤ ((R * R * 9007199254740992 + 4 * n : Nat) : Rat) := Rat.natCast_le_natCast.2 b2
  simp only [Rat.natCast_mul, Rat.natCast_add] at c1 c2 ⊢
  have hc := p2_pos (-53)
  generalize ((9007199254740992 : Nat) : Rat) = g at *
  generalize p2 (-53) = c at *
  have n4 : ((4 : Nat) : Rat) = 4 := rfl
  rw [n4] at c1 c2
  have d1 := Rat.mul_le_mul_of_nonneg_right c1 (Rat.le_of_lt (Rat.mul_pos hq hc))
  have d2 := Rat.mul_le_mul_of_nonneg_right c2 (Rat.le_of_lt (Rat.mul_pos hq hc))
  have e1 : ∀ z : Rat, z * g * (q * q * c) = z * (q * q) := fun z => by
    have : z * g * (q * q * c) = z * (q * q) * (c * g) := by grind
    rw [this, h53, Rat.mul_one]
  rw [e1, Rat.add_mul, e1] at d1
  rw [e1, Rat.add_mul, e1] at d2
  constructor <;> grind
theorem mul_mono {a b c d : Rat} (ha : 0 ≤ a) (hc : 0 ≤ c) (h1 : a ≤ b) (h2 : c ≤ d) : a * c ≤ b * d :=
  Rat.le_trans (Rat.mul_le_mul_of_nonneg_right h1 hc) (Rat.mul_le_mul_of_nonneg_left h2 (Rat.le_trans ha h1))

theorem sqrt_ar1 (c v q u y : Rat) (hc : 0 < c) (hc1 : c * 1000 ≤ 1) (hv : 0 < v) (hq : 0 < q) (hu : 0 ≤ u) (h1 : q * q ≤ v + v * c) (h2 : v ≤ q * q + v * c) (h3 : u ≤ q + q * c) (h4 : q ≤ u + q * c)
    (h5 : y ≤ u * u + u * u * c) (h6 : u * u ≤ y + u * u * c) : y ≤ v + v * c * 5 ∧ v ≤ y + v * c * 5 := by
  have cc : c * c * 1000 ≤ c := by
    have := Rat.mul_le_mul_of_nonneg_left hc1 (Rat.le_of_lt hc)
    grind
  have c0 : 0 ≤ c * c := Rat.mul_nonneg (Rat.le_of_lt hc) (Rat.le_of_lt hc)
  have qq : 0 ≤ q * q := Rat.mul_nonneg (Rat.le_of_lt hq) (Rat.le_of_lt hq)
  have uu : 0 ≤ u * u := Rat.mul_nonneg hu hu
  constructor
  · have s1 : u * u ≤ (q + q * c) * (q + q * c) := mul_mono hu hu h3 h3
    have s2 : (q + q * c) * (q + q * c) ≤ q * q + q * q * (c * (201/100)) := by
      have := Rat.mul_le_mul_of_nonneg_left cc qq
      have := Rat.mul_le_mul_of_nonneg_left (Rat.le_of_lt hc) qq
      grind
    have s3 : q * q * (c * (201/100)) ≤ (v + v * c) * (c * (201/100)) := Rat.mul_le_mul_of_nonneg_right h1 (by grind)
    have s4 : (v + v * c) * (c * (201/100)) ≤ v * (c * (202/100)) := by
      have := Rat.mul_le_mul_of_nonneg_left cc (Rat.le_of_lt hv)
      grind
    have s5 : u * u ≤ v + v * (c * (302/100)) := by grind
    have s6 : u * u * c ≤ (v + v * (c * (302/100))) * c := Rat.mul_le_mul_of_nonneg_right s5 (Rat.le_of_lt hc)
    have s7 : (v + v * (c * (302/100))) * c ≤ v * (c * (101/100)) := by
      have := Rat.mul_le_mul_of_nonneg_left cc (Rat.le_of_lt hv)
      grind
    have := Rat.mul_pos hv hc
    grind
  · have hq1 : 0 ≤ q - q * c := by
      have := Rat.mul_le_mul_of_nonneg_left hc1 (Rat.le_of_lt hq)
      grind
    have s1 : (q - q * c) * (q - q * c) ≤ u * u := mul_mono hq1 hq1 (by grind) (by grind)
    have s2 : q * q - q * q * (c * 2) ≤ (q - q * c) * (q - q * c) := by
      have := Rat.mul_nonneg qq c0
      grind
    have s3 : q * q * (c * 2) ≤ (v + v * c) * (c * 2) := Rat.mul_le_mul_of_nonneg_right h1 (by grind)
    have s4 : (v + v * c) * (c * 2) ≤ v * (c * (201/100)) := by
      have := Rat.mul_le_mul_of_nonneg_left cc (Rat.le_of_lt hv)
      grind
    have s5 : v - v * (c * (302/100)) ≤ u * u := by grind
    have s0 : u * u ≤ v + v := by
      have t1 : u * u ≤ (q + q * c) * (q + q * c) := mul_mono hu hu h3 h3
      have := Rat.mul_le_mul_of_nonneg_left cc qq
      have := Rat.mul_le_mul_of_nonneg_left hc1 qq
      have := Rat.mul_le_mul_of_nonneg_left hc1 (Rat.le_of_lt hv)
      have := Rat.mul_le_mul_of_nonneg_left (Rat.le_of_lt hc) qq
      grind
    have s6 : u * u * c ≤ v * (c * (101/100)) := by
      have t1 : u * u ≤ (q + q * c) * (q + q * c) := mul_mono hu hu h3 h3
      have t2 : (q + q * c) * (q + q * c) ≤ q * q + q * q * (c * (201/100)) := by
        have := Rat.mul_le_mul_of_nonneg_left cc qq
        have := Rat.mul_le_mul_of_nonneg_left (Rat.le_of_lt hc) qq
        grind
      have t3 : q * q * (c * (201/100)) ≤ (v + v * c) * (c * (201/100)) := Rat.mul_le_mul_of_nonneg_right h1 (by grind)
      have t4 : (v + v * c) * (c * (201/100)) ≤ v * (c * (202/100)) := by
        have := Rat.mul_le_mul_of_nonneg_left cc (Rat.le_of_lt hv)
        grind
      have t5 : u * u ≤ v + v * (c * (302/100)) := by grind
      have t6 : u * u * c ≤ (v + v * (c * (302/100))) * c := Rat.mul_le_mul_of_nonneg_right t5 (Rat.le_of_lt hc)
      have t7 : (v + v * (c * (302/100))) * c ≤ v * (c * (101/100)) := by
        have := Rat.mul_le_mul_of_nonneg_left cc (Rat.le_of_lt hv)
        grind
      grind
    have := Rat.mul_pos hv hc
    grind

/-- The difference, rounded, against x times 1e-15, rounded. -/
theorem sqrt_ar2 (c v _y e D T g z : Rat) (hc : 0 < c) (hc1 : c * 1000 ≤ 1) (hv : 0 < v) (hz : z ≤ v * c * 5) (_hz0 : 0 ≤ z) (hD : D ≤ z + (z * c + e)) (hg : c * 9 ≤ g) (hT : v * g ≤ T + (v * g * c + e)) (he : e ≤ v * c) (_he0 : 0 < e) : D ≤ T := by
  have cc : c * c * 1000 ≤ c := by
    have := Rat.mul_le_mul_of_nonneg_left hc1 (Rat.le_of_lt hc)
    grind
  have hvc := Rat.mul_pos hv hc
  have a1 : z * c ≤ v * c * 5 * c := Rat.mul_le_mul_of_nonneg_right hz (Rat.le_of_lt hc)
  have a2 : v * c * 5 * c ≤ v * c := by
    have := Rat.mul_le_mul_of_nonneg_left cc (Rat.le_of_lt hv)
    grind
  have b1 : v * (c * 9) * (1 - c) ≤ v * g * (1 - c) := Rat.mul_le_mul_of_nonneg_right (Rat.mul_le_mul_of_nonneg_left hg (Rat.le_of_lt hv)) (by grind)
  have b2 : v * c * 8 ≤ v * (c * 9) * (1 - c) := by
    have := Rat.mul_le_mul_of_nonneg_left cc (Rat.le_of_lt hv)
    grind
  grind

/-- A word that is a number, and which. -/
def fin (x : Nat) : Prop := ∃ s m i, double.read x = .number s m i
def fv (x : Nat) : Rat := match double.read x with
  | .number s m i => rv s m i
  | _ => 0
theorem fv_of {x : Nat} {s : Bool} {m : Nat} {i : Int} (h : double.read x = .number s m i) : fv x = rv s m i := by unfold fv; rw [h]

theorem signed_cast (s : Bool) (m k : Nat) (b : Int) : ((signed s m k : Int) : Rat) * p2 b = rv s m (b + k) := by
  unfold signed rv
  rw [p2_add, p2_nat, Nat.shiftLeft_eq]
  cases s
  · show (((m * 2 ^ k : Nat) : Int) : Rat) * p2 b = (m : Rat) * (p2 b * ((2 ^ k : Nat) : Rat))
    rw [Rat.intCast_natCast, Rat.natCast_mul]; grind
  · show ((-((m * 2 ^ k : Nat) : Int) : Int) : Rat) * p2 b = -((m : Rat) * (p2 b * ((2 ^ k : Nat) : Rat)))
    rw [Rat.intCast_neg, Rat.intCast_natCast, Rat.natCast_mul]; grind
theorem cmp_int {a b : Int} {x y : Rat} {q : Rat} (hq : 0 < q) (hx : (a : Rat) * q = x) (hy : (b : Rat) * q = y) :
    (compare a b = .lt ↔ x < y) ∧ (compare a b = .eq ↔ x = y) ∧ (compare a b = .gt ↔ y < x) := by
  subst hx hy
  have hl : ∀ a b : Int, (a : Rat) * q < (b : Rat) * q ↔ a < b := fun a b => by rw [Rat.mul_lt_mul_right hq]; exact Rat.intCast_lt_intCast
  refine ⟨?_, ?_, ?_⟩
  · rw [hl, Int.compare_eq_lt]
  · rw [Int.compare_eq_eq]
    constructor
    · rintro rfl; rfl
    · intro h
      rcases Int.lt_trichotomy a b with h1 | h1 | h1
      · exact absurd ((hl a b).2 h1) (by rw [h]; exact Rat.lt_irrefl)
      · exact h1
      · exact absurd ((hl b a).2 h1) (by rw [h]; exact Rat.lt_irrefl)
  · rw [hl, Int.compare_eq_gt]

theorem order_fin {x y : Nat} (hx : fin x) (hy : fin y) : ∃ o, double.order x y = some o ∧ (o = .lt ↔ fv x < fv y) ∧ (o = .eq ↔ fv x = fv y) ∧ (o = .gt ↔ fv y < fv x) := by
  obtain ⟨s, m, i, h1⟩ := hx
  obtain ⟨t, n, j, h2⟩ := hy
  rw [fv_of h1, fv_of h2]
  unfold Format.order
  rw [h1, h2]
  refine ⟨_, rfl, cmp_int (p2_pos (min i j)) ?_ ?_⟩
  · rw [signed_cast]
    have e : min i j + ((i - min i j).toNat : Int) = i := by omega
    rw [e]
  · rw [signed_cast]
    have e : min i j + ((j - min i j).toNat : Int) = j := by omega
    rw [e]
theorem ord_lt {x y : Nat} (hx : fin x) (hy : fin y) : (double.order x y == some .lt) = decide (fv x < fv y) := by
  obtain ⟨o, h, h1, -, -⟩ := order_fin hx hy
  rw [h, Bool.eq_iff_iff]; simp [h1]
theorem ord_eq {x y : Nat} (hx : fin x) (hy : fin y) : (double.order x y == some .eq) = decide (fv x = fv y) := by
  obtain ⟨o, h, -, h1, -⟩ := order_fin hx hy
  rw [h, Bool.eq_iff_iff]; simp [h1]
theorem ord_gt {x y : Nat} (hx : fin x) (hy : fin y) : (double.order x y == some .gt) = decide (fv y < fv x) := by
  obtain ⟨o, h, -, -, h1⟩ := order_fin hx hy
  rw [h, Bool.eq_iff_iff]; simp [h1]

/-- The word without its sign bit. -/
def absw (x : Nat) : Nat := x % 9223372036854775808
theorem read_absw {x : Nat} {s : Bool} {m : Nat} {i : Int} (h : double.read x = .number s m i) : double.read (absw x) = .number false m i := by
  unfold Format.read absw at *
  rw [dbl_place, dbl_bin, dbl_inf, dbl_sign] at *
  have e : x % 9223372036854775808 / 9223372036854775808 % 2 = 0 := by omega
  have e2 : x % 9223372036854775808 % 9223372036854775808 = x % 9223372036854775808 := by omega
  simp only [e, e2] at *
  split at h
  · rename_i h1
    rw [if_pos h1]
    injection h with _ h3 h4
    rw [h3, h4]; rfl
  · rename_i h1
    rw [if_neg h1]
    split at h
    · rename_i h2
      rw [if_pos h2]
      injection h with _ h3 h4
      rw [h3, h4]; rfl
    · split at h <;> cases h

theorem rv_pos_eq {m : Nat} {i : Int} : rv false m i = (m : Rat) * p2 i := rfl
theorem nearest_zero (neg : Bool) (i : Int) : double.read (double.nearest neg 0 i) = .number neg 0 (-1074) := by
  unfold Format.nearest
  rw [if_pos rfl, read_word _ _ (by omega)]
  rfl

/-- The number a word stands for is not too great to be one. -/
theorem max_fin {x : Nat} {s : Bool} {m : Nat} {i : Int} (h : double.read x = .number s m i) : m < 9007199254740992 ∧ -1074 ≤ i ∧ i ≤ 971 := by
  unfold Format.read at h
  rw [dbl_place, dbl_bin, dbl_inf, dbl_sign] at h
  simp only at h
  split at h
  · rename_i h1
    injection h with _ h3 h4
    omega
  · rename_i h1
    split at h
    · rename_i h2
      injection h with _ h3 h4
      omega
    · split at h <;> cases h

theorem mul_near {x y : Nat} {s t : Bool} {m n : Nat} {i j : Int} (hx : double.read x = .number s m i) (hy : double.read y = .number t n j) (hm : 0 < m) (hn : 0 < n)
    (hv : (m : Rat) * p2 i * ((n : Rat) * p2 j) < p2 1023) :
    ∃ r M P, double.mul x y = some r ∧ double.read r = .number (s ^^ t) M P ∧
      (M : Rat) * p2 P ≤ (m : Rat) * p2 i * ((n : Rat) * p2 j) + ((m : Rat) * p2 i * ((n : Rat) * p2 j) * p2 (-53) + p2 (-1075)) ∧ (m : Rat) * p2 i * ((n : Rat) * p2 j) ≤ (M : Rat) * p2 P + ((m : Rat) * p2 i * ((n : Rat) * p2 j) * p2 (-53) + p2 (-1075)) ∧
      (p2 (-1022) ≤ (m : Rat) * p2 i * ((n : Rat) * p2 j) → (M : Rat) * p2 P ≤ (m : Rat) * p2 i * ((n : Rat) * p2 j) + (m : Rat) * p2 i * ((n : Rat) * p2 j) * p2 (-53) ∧ (m : Rat) * p2 i * ((n : Rat) * p2 j) ≤ (M : Rat) * p2 P + (m : Rat) * p2 i * ((n : Rat) * p2 j) * p2 (-53)) := by
  have e : ((m * n : Nat) : Rat) * p2 (i + j) = (m : Rat) * p2 i * ((n : Rat) * p2 j) := by rw [Rat.natCast_mul, p2_add]; grind
  rw [← e] at hv ⊢
  obtain ⟨M, P, h1, h2, h3, h4, h5, h6, h7⟩ := near (s ^^ t) (m * n) (i + j) (Nat.mul_pos hm hn) hv
  refine ⟨_, M, P, ?_, h1, h4, h5, h6⟩
  unfold Format.mul
  rw [hx, hy]
  rfl

theorem sub_near {x y : Nat} {m n : Nat} {i j : Int} (hx : double.read x = .number false m i) (hy : double.read y = .number false n j)
    (hv : (m : Rat) * p2 i < p2 1022) (hw : (n : Rat) * p2 j < p2 1022) :
    ∃ r s M P z, double.sub x y = some r ∧ double.read r = .number s M P ∧ (z = (m : Rat) * p2 i - (n : Rat) * p2 j ∨ z = (n : Rat) * p2 j - (m : Rat) * p2 i) ∧ 0 ≤ z ∧ (M : Rat) * p2 P ≤ z + (z * p2 (-53) + p2 (-1075)) := by
  obtain ⟨tot, htot⟩ : ∃ tot, tot = signed false m (i - min i j).toNat + signed true n (j - min i j).toNat := ⟨_, rfl⟩
  have hsub : double.sub x y = some (double.nearest (if tot = 0 then false && true else decide (tot < 0)) tot.natAbs (min i j)) := by
    unfold Format.sub
    rw [hx, hy, htot]
    rfl
  have hval : (tot : Rat) * p2 (min i j) = (m : Rat) * p2 i - (n : Rat) * p2 j := by
    rw [htot, Rat.intCast_add, Rat.add_mul, signed_cast, signed_cast]
    have e1 : min i j + ((i - min i j).toNat : Int) = i := by omega
    have e2 : min i j + ((j - min i j).toNat : Int) = j := by omega
    rw [e1, e2]
    unfold rv
    simp
    grind
  have hb := p2_pos (min i j)
  have hpm : 0 ≤ (m : Rat) * p2 i := Rat.mul_nonneg Rat.natCast_nonneg (Rat.le_of_lt (p2_pos i))
  have hpn : 0 ≤ (n : Rat) * p2 j := Rat.mul_nonneg Rat.natCast_nonneg (Rat.le_of_lt (p2_pos j))
  have h1023 : p2 1023 = 2 * p2 1022 := p2_s (by omega)
  rw [hsub]
  generalize (if tot = 0 then false && true else decide (tot < 0)) = sg
  clear hsub htot
  have hab : ∃ z, (z = (m : Rat) * p2 i - (n : Rat) * p2 j ∨ z = (n : Rat) * p2 j - (m : Rat) * p2 i) ∧ 0 ≤ z ∧ (tot.natAbs : Rat) * p2 (min i j) = z := by
    rcases Int.le_total 0 tot with h | h
    · obtain ⟨k, rfl⟩ : ∃ k : Nat, tot = k := ⟨tot.toNat, by omega⟩
      refine ⟨_, .inl rfl, ?_, ?_⟩
      · rw [← hval]
        exact Rat.mul_nonneg (Rat.intCast_nonneg.2 h) (Rat.le_of_lt hb)
      · rw [← hval]; rfl
    · obtain ⟨k, rfl⟩ : ∃ k : Nat, tot = -(k : Int) := ⟨(-tot).toNat, by omega⟩
      have e : ((-(k : Int) : Int) : Rat) = -((k : Nat) : Rat) := by rw [Rat.intCast_neg, Rat.intCast_natCast]
      rw [e] at hval
      have hk : (k : Rat) * p2 (min i j) = (n : Rat) * p2 j - (m : Rat) * p2 i := by grind
      refine ⟨_, .inr rfl, ?_, ?_⟩
      · rw [← hk]
        exact Rat.mul_nonneg Rat.natCast_nonneg (Rat.le_of_lt hb)
      · rw [← hk, Int.natAbs_neg, Int.natAbs_natCast]
  obtain ⟨z, hz, hz0, hk⟩ := hab
  rcases Nat.eq_zero_or_pos tot.natAbs with h0 | h0
  · rw [h0]
    refine ⟨_, _, 0, -1074, z, rfl, nearest_zero _ _, hz, hz0, ?_⟩
    have : ((0 : Nat) : Rat) = 0 := rfl
    rw [this]
    have := Rat.mul_nonneg hz0 (Rat.le_of_lt (p2_pos (-53)))
    have := p2_pos (-1075)
    grind
  · obtain ⟨M, P, h1, h2, h3, h4, -⟩ := near sg tot.natAbs (min i j) h0 (by rw [hk]; rcases hz with rfl | rfl <;> grind)
    rw [hk] at h4
    exact ⟨_, _, M, P, z, rfl, h1, hz, hz0, h4⟩

theorem sqrt_eq (x : Nat) (m : Nat) (i : Int) (R : Nat) (J : Int) (hx : double.read x = .number false m i) (h : Datum.root 54 (.number false m i) = some (.number false R J)) : double.sqrt x = some (double.nearest false R J) := by
  unfold Format.sqrt
  have : double.fractionBits + 2 = 54 := rfl
  rw [hx, this, h]
  rfl
theorem sq_lt {q b : Rat} (_hq : 0 < q) (hb : 0 < b) (h : q * q < b * b) : q < b := by
  rcases Rat.le_total (a := q) (b := b) with h1 | h1
  · exact Std.lt_of_le_of_ne h1 (fun e => by rw [e] at h; exact Rat.lt_irrefl h)
  · exact absurd h (Rat.not_lt.2 (mul_mono (Rat.le_of_lt hb) (Rat.le_of_lt hb) h1 h1))

/-- The square of the root, as the statement asks it. -/
theorem sqrt_law (x : Nat) (m : Nat) (i : Int) (C n : Nat) (j : Int) (hx : double.read x = .number false m i) (hm : 0 < m) (h1 : p2 (-997) ≤ (m : Rat) * p2 i) (h2 : (m : Rat) * p2 i ≤ p2 997)
    (hC : double.read C = .number false n j) (hn : 0 < n) (hg : p2 (-53) * 9 ≤ (n : Rat) * p2 j) (hg1 : (n : Rat) * p2 j ≤ 1) :
    ∃ o M P, double.sqrt x = some o ∧ double.read o = .number false M P ∧ 0 < M ∧ (M : Rat) * p2 P < p2 501 ∧
      ∃ w, double.mul o o = some w ∧ ∃ d s D E, double.sub w x = some d ∧ double.read d = .number s D E ∧
        ∃ t T F, double.mul x C = some t ∧ double.read t = .number false T F ∧ (D : Rat) * p2 E ≤ (T : Rat) * p2 F := by
  obtain ⟨R, J, hr, hR, r1, r2⟩ := root_spec m i hm
  have hs := sqrt_eq x m i R J hx hr
  have hc := p2_pos (-53)
  have hc1 : p2 (-53) * 1000 ≤ 1 := by
    have := p2_le (show (-53 : Int) ≤ -10 by omega)
    have e : p2 (-10) * 1024 = 1 := by
      have := p2_add (-10) (10 : Nat)
      rw [p2_nat] at this
      exact this.symm
    have := p2_pos (-10)
    grind
  have hv : 0 < (m : Rat) * p2 i := Std.lt_of_lt_of_le (p2_pos _) h1
  have hq : 0 < (R : Rat) * p2 J := Rat.mul_pos (Rat.natCast_pos.2 hR) (p2_pos J)
  generalize hvv : (m : Rat) * p2 i = v at *
  obtain ⟨q, hqq⟩ : ∃ q, q = (R : Rat) * p2 J := ⟨_, rfl⟩
  rw [← hqq] at r1 r2 hq
  have hvc : v * p2 (-53) * 1000 ≤ v := by
    have := Rat.mul_le_mul_of_nonneg_left hc1 (Rat.le_of_lt hv)
    grind
  have hvcp := Rat.mul_pos hv hc
  have q1 : q < p2 500 := sq_lt hq (p2_pos _) (by
    rw [← p2_add]
    have h3 : p2 998 = 2 * p2 997 := p2_s (by omega)
    have h4 := p2_le (show (998 : Int) ≤ 999 by omega)
    have h5 : p2 (500 + 500) = 2 * p2 999 := p2_s (by omega)
    have := p2_pos 999
    grind)
  have q2 : p2 (-500) < q := sq_lt (p2_pos _) hq (by
    rw [← p2_add]
    have h3 : p2 (-997) = 2 * p2 (-998) := p2_s (by omega)
    have h4 : p2 (-998) = 2 * p2 (-999) := p2_s (by omega)
    have h5 : p2 (-999) = 2 * p2 (-500 + -500) := p2_s (by omega)
    have := p2_pos (-500 + -500)
    grind)
  obtain ⟨M, P, o1, o2, o3, o4, o5, o6, -⟩ := near false R J hR (by
    rw [← hqq]; exact Std.lt_of_lt_of_le q1 (p2_le (by omega)))
  rw [← hqq] at o6
  obtain ⟨o6, o7⟩ := o6 (Rat.le_of_lt (Std.lt_of_le_of_lt (p2_le (by omega)) q2))
  obtain ⟨u, huu⟩ : ∃ u, u = (M : Rat) * p2 P := ⟨_, rfl⟩
  rw [← huu] at o6 o7
  have hqc : q * p2 (-53) * 1000 ≤ q := by
    have := Rat.mul_le_mul_of_nonneg_left hc1 (Rat.le_of_lt hq)
    grind
  have hqcp := Rat.mul_pos hq hc
  have hu : p2 (-501) < u := by
    have h5 : p2 (-500) = 2 * p2 (-501) := p2_s (by omega)
    have := p2_pos (-501)
    grind
  have hu1 : u < p2 501 := by
    have h5 : p2 501 = 2 * p2 500 := p2_s (by omega)
    grind
  have hu0 : 0 < u := Std.lt_trans (p2_pos _) hu
  have hM : 0 < M := by
    rcases Nat.eq_zero_or_pos M with h | h
    · subst h
      have : ((0 : Nat) : Rat) = 0 := rfl
      rw [this, Rat.zero_mul] at huu
      rw [huu] at hu0
      exact absurd hu0 Rat.lt_irrefl
    · exact h
  refine ⟨_, M, P, hs, o1, hM, by rw [← huu]; exact hu1, ?_⟩
  have huu2 : u * u ≤ p2 1002 := by
    have := mul_mono (Rat.le_of_lt hu0) (Rat.le_of_lt hu0) (Rat.le_of_lt hu1) (Rat.le_of_lt hu1)
    rwa [← p2_add] at this
  have huu3 : p2 (-1002) ≤ u * u := by
    have := mul_mono (Rat.le_of_lt (p2_pos _)) (Rat.le_of_lt (p2_pos _)) (Rat.le_of_lt hu) (Rat.le_of_lt hu)
    rwa [← p2_add] at this
  obtain ⟨w, W, I, w1, w2, -, -, w5⟩ := mul_near o1 o1 hM hM (by
    rw [← huu]; exact Std.lt_of_le_of_lt huu2 (by
      have h5 : p2 1003 = 2 * p2 1002 := p2_s (by omega)
      have := p2_pos 1002
      have := p2_le (show (1003 : Int) ≤ 1023 by omega)
      grind))
  rw [← huu] at w5
  obtain ⟨w5, w6⟩ := w5 (Rat.le_trans (p2_le (by omega)) huu3)
  obtain ⟨y, hyy⟩ : ∃ y, y = (W : Rat) * p2 I := ⟨_, rfl⟩
  rw [← hyy] at w5 w6
  obtain ⟨y1, y2⟩ := sqrt_ar1 (p2 (-53)) v q u y hc hc1 hv hq (Rat.le_of_lt hu0) r1 r2 o6 o7 w5 w6
  refine ⟨w, w1, ?_⟩
  have hp : p2 998 = 2 * p2 997 := p2_s (by omega)
  obtain ⟨d, s, D, E, z, d1, d2, dz, dz0, d3⟩ := sub_near w2 hx (by
    rw [← hyy]
    have := p2_le (show (998 : Int) ≤ 1022 by omega)
    grind) (by
    rw [hvv]
    have := p2_le (show (998 : Int) ≤ 1022 by omega)
    have := p2_pos 997
    grind)
  rw [← hyy, hvv] at dz
  have hz : z ≤ v * p2 (-53) * 5 := by rcases dz with rfl | rfl <;> grind
  refine ⟨d, s, D, E, d1, d2, ?_⟩
  obtain ⟨g, hgg⟩ : ∃ g, g = (n : Rat) * p2 j := ⟨_, rfl⟩
  rw [← hgg] at hg hg1
  have hg0 : 0 < g := by grind
  obtain ⟨t, T, F, t1, t2, -, t4, -⟩ := mul_near hx hC hm hn (by
    rw [hvv, ← hgg]
    have h3 := Rat.mul_le_mul_of_nonneg_left hg1 (Rat.le_of_lt hv)
    have := p2_le (show (998 : Int) ≤ 1023 by omega)
    have := p2_pos 997
    grind)
  rw [hvv, ← hgg] at t4
  refine ⟨t, T, F, t1, t2, ?_⟩
  refine sqrt_ar2 (p2 (-53)) v y (p2 (-1075)) _ _ g z hc hc1 hv hz dz0 d3 hg t4 ?_ (p2_pos _)
  have h3 := Rat.mul_le_mul_of_nonneg_right h1 (Rat.le_of_lt hc)
  rw [← p2_add] at h3
  exact Rat.le_trans (p2_le (by omega)) h3

/-- An integer, turned to a float, is that integer. -/
theorem int_fin (n : Int) (h1 : -9007199254740992 < n) (h2 : n < 9007199254740992) : fin (double.nearest (decide (n < 0)) n.natAbs 0) ∧ fv (double.nearest (decide (n < 0)) n.natAbs 0) = (n : Rat) := by
  rcases Nat.eq_zero_or_pos n.natAbs with h0 | h0
  · have hn : n = 0 := by omega
    subst hn
    have hr := nearest_zero (decide ((0 : Int) < 0)) 0
    refine ⟨⟨_, _, _, hr⟩, ?_⟩
    rw [show (0 : Int).natAbs = 0 from rfl, fv_of hr]
    show ((0 : Nat) : Rat) * p2 (-1074) = ((0 : Int) : Rat)
    exact Rat.zero_mul _
  · have hlog : n.natAbs.log2 ≤ 52 := by
      have := Nat.log2_self_le (n := n.natAbs) (by omega)
      rcases Nat.lt_or_ge n.natAbs.log2 53 with h | h
      · omega
      · have h3 := Nat.pow_le_pow_right (show 2 > 0 by omega) h
        omega
    have e0 : p2 0 = 1 := rfl
    obtain ⟨M, P, r1, r2, r3, -, -, -, r4⟩ := near (decide (n < 0)) n.natAbs 0 h0 (by
      rw [e0, Rat.mul_one]
      have h3 : ((n.natAbs : Nat) : Rat) < ((2 ^ 53 : Nat) : Rat) := Rat.natCast_lt_natCast.2 (by omega)
      rw [← p2_nat] at h3
      exact Std.lt_trans h3 (Std.lt_of_le_of_ne (p2_le (by omega)) (fun e => by
        have h4 : p2 1023 = 2 * p2 1022 := p2_s (by omega)
        have h5 := p2_le (show ((53 : Nat) : Int) ≤ 1022 by omega)
        have := p2_pos 1022
        grind)))
    refine ⟨⟨_, _, _, r1⟩, ?_⟩
    have r5 := r4 (by omega) (by omega)
    rw [e0, Rat.mul_one] at r5
    rw [fv_of r1]
    unfold rv
    rw [r5]
    rcases Int.le_total 0 n with h | h
    · have hd : decide (n < 0) = false := by simp; omega
      rw [hd]
      simp only [Bool.false_eq_true, if_false]
      obtain ⟨k, rfl⟩ : ∃ k : Nat, n = k := ⟨n.toNat, by omega⟩
      rfl
    · have hd : decide (n < 0) = true := by simp; omega
      rw [hd]
      simp only [if_true]
      obtain ⟨k, rfl⟩ : ∃ k : Nat, n = -(k : Int) := ⟨(-n).toNat, by omega⟩
      rw [Int.natAbs_neg, Int.natAbs_natCast, Rat.intCast_neg, Rat.intCast_natCast]

theorem p2_neg_mul (k : Nat) : p2 (-(k : Int)) * ((2 ^ k : Nat) : Rat) = 1 := by
  rw [← p2_nat, ← p2_add]
  have : -(k : Int) + (k : Int) = 0 := by omega
  rw [this]; rfl

/-- A float that is an integer, turned to it. -/
theorem toInt_whole {x : Nat} (hx : fin x) (n : Int) (h : fv x = (n : Rat)) : (double.read x).toInt .zero = some n := by
  obtain ⟨s, m, i, hr⟩ := hx
  rw [fv_of hr] at h
  rw [hr]
  unfold Datum.toInt Datum.integral
  simp only
  congr 1
  have hnat : ((m : Nat) : Rat) * p2 i = ((n.natAbs : Nat) : Rat) ∧ (n = if s then -(n.natAbs : Int) else (n.natAbs : Int)) := by
    have hp := Rat.mul_nonneg (Rat.natCast_nonneg (a := m)) (Rat.le_of_lt (p2_pos i))
    unfold rv at h
    rcases Int.le_total 0 n with hn | hn
    · obtain ⟨k, rfl⟩ : ∃ k : Nat, n = k := ⟨n.toNat, by omega⟩
      rw [Rat.intCast_natCast] at h
      have hk := Rat.natCast_nonneg (a := k)
      cases s
      · simp at h ⊢; exact h
      · simp at h
        have h0 : (k : Rat) = 0 := by grind
        have : k = 0 := by exact_mod_cast h0
        subst this
        simp
        grind
    · obtain ⟨k, rfl⟩ : ∃ k : Nat, n = -(k : Int) := ⟨(-n).toNat, by omega⟩
      rw [Rat.intCast_neg, Rat.intCast_natCast] at h
      have hk := Rat.natCast_nonneg (a := k)
      cases s
      · simp at h
        have h0 : (k : Rat) = 0 := by grind
        have : k = 0 := by exact_mod_cast h0
        subst this
        simp
        grind
      · simp at h ⊢; grind
  obtain ⟨hv, hn⟩ := hnat
  have hcut : Toward.zero.cut s (m <<< i.toNat) (-i).toNat = n.natAbs := by
    rw [Nat.shiftLeft_eq]
    rcases Int.le_total 0 i with hi | hi
    · obtain ⟨k, rfl⟩ : ∃ k : Nat, i = k := ⟨i.toNat, by omega⟩
      have e : (-(k : Int)).toNat = 0 := by omega
      rw [e]
      unfold Toward.cut
      simp [Nat.shiftLeft_eq]
      rw [p2_nat, ← Rat.natCast_mul] at hv
      exact Rat.natCast_inj.1 hv
    · obtain ⟨k, rfl⟩ : ∃ k : Nat, i = -(k : Int) := ⟨(-i).toNat, by omega⟩
      have e : (-(k : Int)).toNat = 0 := by omega
      have e1 : (- -(k : Int)).toNat = k := by omega
      rw [e, e1, Nat.pow_zero, Nat.mul_one]
      have hm : m = n.natAbs * 2 ^ k := by
        have h1 := p2_neg_mul k
        have : (m : Rat) = ((n.natAbs * 2 ^ k : Nat) : Rat) := by
          rw [Rat.natCast_mul, ← hv]; grind
        exact Rat.natCast_inj.1 this
      unfold Toward.cut
      simp only [Nat.shiftLeft_eq, Nat.one_mul, Bool.toNat_false, Nat.add_zero]
      rcases Nat.lt_or_ge (m.log2 + 2) k with hk | hk
      · have h1 : m < 2 ^ (m.log2 + 1) := Nat.lt_log2_self
        have h2 : 2 ^ (m.log2 + 1) ≤ 2 ^ k := Nat.pow_le_pow_right (by omega) (by omega)
        have h3 : n.natAbs = 0 := by
          rcases Nat.eq_zero_or_pos n.natAbs with h | h
          · exact h
          · have : 1 * 2 ^ k ≤ n.natAbs * 2 ^ k := Nat.mul_le_mul_right _ h
            omega
        rw [h3] at hm ⊢
        rw [hm]; simp
      · rw [Nat.min_eq_left hk, hm]
        exact Nat.mul_div_cancel _ (Nat.pow_pos (by omega))
  rw [hcut]
  unfold signed
  rw [Nat.shiftLeft_eq, Nat.pow_zero, Nat.mul_one]
  exact hn.symm

theorem xor_comm' (s t : Bool) : (s ^^ t) = (t ^^ s) := by cases s <;> cases t <;> rfl
theorem mul_comm_ (x y : Nat) : double.mul x y = double.mul y x := by
  unfold Format.mul
  congr 1
  cases double.read x <;> cases double.read y <;> simp [Datum.product, xor_comm', Nat.mul_comm, Int.add_comm]

/-- A word with the other sign. -/
theorem read_flip {s : Bool} {m : Nat} {i : Int} (b : Bool) (r : Nat) (hr : r < 9218868437227405312) (h : double.read (double.word b r) = .number s m i) : double.read (double.word (!b) r) = .number (!s) m i := by
  rw [read_word _ _ hr] at h ⊢
  split at h
  · rename_i h1
    rw [if_pos h1]
    injection h with h2 h3 h4
    rw [h2, h3, h4]
  · rename_i h1
    rw [if_neg h1]
    injection h with h2 h3 h4
    rw [h2, h3, h4]

/-- The rung to which a number is rounded. -/
def rng (m : Nat) (i : Int) : Nat := if m = 0 then 0 else
  min (((max (i + m.log2 - 52) (-1074) : Int) + 1074).toNat * 4503599627370496 + Toward.even.cut false (m <<< (i - (max (i + m.log2 - 52) (-1074) : Int)).toNat) ((max (i + m.log2 - 52) (-1074) : Int) - i).toNat) 9218868437227405312
theorem nearest_word (neg : Bool) (m : Nat) (i : Int) : double.nearest neg m i = double.word neg (rng m i) := by
  unfold Format.nearest rng
  rw [dbl_place, dbl_bin, dbl_inf, dbl_frac]
  split
  · rfl
  · rfl
theorem rng_le (m : Nat) (i : Int) : rng m i ≤ 9218868437227405312 := by
  unfold rng
  split
  · omega
  · exact Nat.min_le_right _ _
theorem read_inf (neg : Bool) : double.read (double.word neg 9218868437227405312) = .infinity neg := by
  unfold Format.read Format.word
  rw [dbl_place, dbl_bin, dbl_inf, dbl_sign]
  cases neg <;> simp
theorem word_fin (neg : Bool) (r : Nat) (h : r < 9218868437227405312) : fin (double.word neg r) := by
  unfold fin
  rw [read_word _ _ h]
  split <;> exact ⟨_, _, _, rfl⟩
theorem fv_flip (neg : Bool) (r : Nat) (h : r < 9218868437227405312) : fv (double.word (!neg) r) = -fv (double.word neg r) := by
  obtain ⟨s, m, i, hr⟩ := word_fin neg r h
  rw [fv_of hr, fv_of (read_flip neg r h hr)]
  unfold rv
  cases s <;> simp
theorem fv_zero (neg : Bool) : fv (double.word neg 0) = 0 := by
  have h := read_word neg 0 (by omega)
  rw [if_pos (by omega)] at h
  rw [fv_of h]
  unfold rv
  cases neg <;> simp
def infw (x : Nat) : Prop := ∃ s, double.read x = .infinity s

theorem sub_turn {x y : Nat} (hx : fin x) (hy : fin y) : ∃ c d, double.sub x y = some c ∧ double.sub y x = some d ∧ (fin c ∧ fin d ∧ fv c = -fv d ∨ infw c ∧ infw d) := by
  obtain ⟨s, m, i, h1⟩ := hx
  obtain ⟨t, n, j, h2⟩ := hy
  have hs : ∀ (b : Bool) (k u : Nat), signed (!b) k u = -signed b k u := fun b k u => by cases b <;> simp [signed]
  obtain ⟨a, ha⟩ : ∃ a, a = signed s m (i - min i j).toNat + signed (!t) n (j - min i j).toNat := ⟨_, rfl⟩
  obtain ⟨b, hb⟩ : ∃ b, b = signed t n (j - min j i).toNat + signed (!s) m (i - min j i).toNat := ⟨_, rfl⟩
  have hab : b = -a := by rw [ha, hb, hs, hs, Int.min_comm j i]; omega
  have e1 : double.sub x y = some (double.nearest (if a = 0 then s && !t else decide (a < 0)) a.natAbs (min i j)) := by
    unfold Format.sub; rw [h1, h2, ha]; rfl
  have e2 : double.sub y x = some (double.nearest (if b = 0 then t && !s else decide (b < 0)) b.natAbs (min j i)) := by
    unfold Format.sub; rw [h1, h2, hb]; rfl
  refine ⟨_, _, e1, e2, ?_⟩
  rw [nearest_word, nearest_word, hab, Int.natAbs_neg, Int.min_comm j i]
  by_cases h0 : a = 0
  · subst h0
    left
    have hz : rng (Int.natAbs 0) (min i j) = 0 := rfl
    rw [hz]
    refine ⟨word_fin _ _ (by omega), word_fin _ _ (by omega), ?_⟩
    rw [fv_zero, fv_zero]; rfl
  · have hf : (if -a = 0 then t && !s else decide (-a < 0)) = !(if a = 0 then s && !t else decide (a < 0)) := by
      rw [if_neg h0, if_neg (by omega), Bool.eq_iff_iff]; simp; omega
    rw [hf]
    rcases Nat.lt_or_ge (rng a.natAbs (min i j)) 9218868437227405312 with h | h
    · left
      refine ⟨word_fin _ _ h, word_fin _ _ h, ?_⟩
      rw [fv_flip _ _ h]; grind
    · right
      have : rng a.natAbs (min i j) = 9218868437227405312 := Nat.le_antisymm (rng_le _ _) h
      rw [this]
      exact ⟨⟨_, read_inf _⟩, ⟨_, read_inf _⟩⟩

theorem mul_turn {x y : Nat} (hx : fin x) (hy : fin y) : ∃ c, double.mul x y = some c ∧ double.mul y x = some c ∧ (fin c ∨ infw c) := by
  rw [mul_comm_ y x]
  obtain ⟨s, m, i, h1⟩ := hx
  obtain ⟨t, n, j, h2⟩ := hy
  have e1 : double.mul x y = some (double.nearest (s ^^ t) (m * n) (i + j)) := by
    unfold Format.mul; rw [h1, h2]; rfl
  refine ⟨_, e1, e1, ?_⟩
  rw [nearest_word]
  rcases Nat.lt_or_ge (rng (m * n) (i + j)) 9218868437227405312 with h | h
  · exact .inl (word_fin _ _ h)
  · right
    have : rng (m * n) (i + j) = 9218868437227405312 := Nat.le_antisymm (rng_le _ _) h
    rw [this]
    exact ⟨_, read_inf _⟩

/-- The tests for a NaN and for an infinity. -/
theorem nan_no {x : Nat} (h : fin x ∨ infw x) : (double.order x x == some .eq) = true := by
  rcases h with h | ⟨s, h⟩
  · rw [ord_eq h h]; simp
  · unfold Format.order; rw [h]; cases s <;> rfl
theorem inf_no {x : Nat} (h : fin x) : (double.order (absw x) 9218868437227405311 == some .gt) = false := by
  obtain ⟨s, m, i, hr⟩ := h
  have h1 := read_absw hr
  have h2 : double.read 9218868437227405311 = .number false 9007199254740991 971 := by rfl
  rw [ord_gt ⟨_, _, _, h1⟩ ⟨_, _, _, h2⟩, fv_of h1, fv_of h2]
  simp only [decide_eq_false_iff_not]
  obtain ⟨b1, b2, b3⟩ := max_fin hr
  refine Rat.not_lt.2 (mul_mono Rat.natCast_nonneg (Rat.le_of_lt (p2_pos i)) (Rat.natCast_le_natCast.2 (by omega)) (p2_le b3))
theorem inf_yes {x : Nat} (h : infw x) : (double.order (absw x) 9218868437227405311 == some .gt) = true := by
  obtain ⟨s, h⟩ := h
  have h2 : double.read 9218868437227405311 = .number false 9007199254740991 971 := by rfl
  have h1 : double.read (absw x) = .infinity false := by
    unfold Format.read absw at *
    rw [dbl_place, dbl_bin, dbl_inf, dbl_sign] at *
    have e : x % 9223372036854775808 / 9223372036854775808 % 2 = 0 := by omega
    have e2 : x % 9223372036854775808 % 9223372036854775808 = x % 9223372036854775808 := by omega
    simp only [e, e2] at *
    split at h
    · cases h
    · rename_i h3
      rw [if_neg h3]
      split at h
      · cases h
      · rename_i h4
        rw [if_neg h4]
        split at h
        · rename_i h5
          rw [if_pos h5]; rfl
        · cases h
  unfold Format.order
  rw [h1, h2]; rfl
theorem nan_yes {x : Nat} (h : ¬ (fin x ∨ infw x)) : (double.order x x == some .eq) = false := by
  unfold Format.order
  cases hr : double.read x with
  | number s m i => exact absurd (.inl ⟨_, _, _, hr⟩) h
  | infinity s => exact absurd (.inr ⟨_, hr⟩) h
  | nan s f => rfl

theorem p2_52 : p2 52 = ((4503599627370496 : Nat) : Rat) := p2_nat 52
theorem p2_53 : p2 53 = ((9007199254740992 : Nat) : Rat) := p2_nat 53

/-- A number that the format has is rounded to itself. -/
theorem near_exact (neg : Bool) (m : Nat) (i : Int) (K : Nat) (j : Int) (hm : 0 < m) (hv : (m : Rat) * p2 i = (K : Rat) * p2 j) (hK : K < 9007199254740992) (hj : -1074 ≤ j) (hj1 : j ≤ 971) :
    rng m i < 9218868437227405312 ∧ fin (double.nearest neg m i) ∧ fv (double.nearest neg m i) = rv neg m i := by
  obtain ⟨last, hl⟩ : ∃ last, last = max (i + (m.log2 : Int) - 52) (-1074) := ⟨_, rfl⟩
  obtain ⟨k, hk, hlow, h1, h2, h3, hn⟩ := nearest_spec neg m i last hm hl
  obtain ⟨g0, g1⟩ := p2_log (i := i) hm
  have hlj : i + (m.log2 : Int) < j + 53 := p2_lt_iff (by
    have h53 : p2 (j + 53) = p2 j * ((9007199254740992 : Nat) : Rat) := by rw [p2_add, p2_53]
    rw [h53]
    have h4 : ((K : Nat) : Rat) < ((9007199254740992 : Nat) : Rat) := Rat.natCast_lt_natCast.2 (by omega)
    have h5 := Rat.mul_lt_mul_of_pos_left h4 (p2_pos j)
    rw [hv] at g0
    rw [Rat.mul_comm] at g0
    exact Std.lt_of_le_of_lt (by rw [Rat.mul_comm] at g0; rw [Rat.mul_comm (p2 j)]; exact g0) h5)
  obtain ⟨a, ha⟩ : ∃ a : Nat, j = last + a := ⟨(j - last).toNat, by omega⟩
  have hk2 : k = K * 2 ^ a := by
    have e : (K : Rat) * p2 j = ((K * 2 ^ a : Nat) : Rat) * p2 last := by rw [ha, p2_add, p2_nat, Rat.natCast_mul]; grind
    rw [hv, e] at h1 h2
    have hp := p2_pos last
    have c1 : ((2 * k : Nat) : Rat) ≤ ((2 * (K * 2 ^ a) + 1 : Nat) : Rat) := by
      refine Rat.le_of_mul_le_mul_right (c := p2 last) ?_ hp
      simp only [Rat.natCast_mul, Rat.natCast_add] at h1 ⊢
      have : ((2 : Nat) : Rat) = 2 := rfl
      have : ((1 : Nat) : Rat) = 1 := rfl
      grind
    have c2 : ((2 * (K * 2 ^ a) : Nat) : Rat) ≤ ((2 * k + 1 : Nat) : Rat) := by
      refine Rat.le_of_mul_le_mul_right (c := p2 last) ?_ hp
      simp only [Rat.natCast_mul, Rat.natCast_add] at h2 ⊢
      have : ((2 : Nat) : Rat) = 2 := rfl
      have : ((1 : Nat) : Rat) = 1 := rfl
      grind
    have d1 := Rat.natCast_le_natCast.1 c1
    have d2 := Rat.natCast_le_natCast.1 c2
    omega
  have hkv : (k : Rat) * p2 last = (m : Rat) * p2 i := by
    rw [hv, ha, p2_add, p2_nat, hk2, Rat.natCast_mul]; grind
  have hL : ((last + 1074).toNat : Int) = last + 1074 := by omega
  generalize (last + 1074).toNat = L at hn hL
  have hov : L * 4503599627370496 + k < 9218868437227405312 := by
    rcases Nat.eq_zero_or_pos a with h0 | h0
    · subst h0
      rw [Nat.pow_zero, Nat.mul_one] at hk2
      omega
    · omega
  rw [Nat.min_eq_left (by omega)] at hn
  have hw : rng m i < 9218868437227405312 := by
    have : double.word neg (rng m i) = double.word neg (L * 4503599627370496 + k) := by rw [← nearest_word]; exact hn
    have h9 := rng_le m i
    unfold Format.word at this
    rw [dbl_sign] at this
    cases neg <;> simp at this <;> omega
  obtain ⟨M, P, hr, he, hM, hP, _⟩ := read_rung neg L k hk (by omega) hov
  have hPL : (L : Int) - 1074 = last := by omega
  rw [hPL] at he
  refine ⟨hw, ⟨_, _, _, by rw [hn]; exact hr⟩, ?_⟩
  rw [hn, fv_of hr, he]
  unfold rv
  rw [hkv]

/-- A rung, as a number: in the form of a whole significand. -/
theorem fv_norm {r : Nat} (h1 : 4503599627370496 ≤ r) (h2 : r < 9218868437227405312) : fv r = ((4503599627370496 + r % 4503599627370496 : Nat) : Rat) * p2 ((r / 4503599627370496 : Nat) - 1075) := by
  have h := read_word false r h2
  rw [if_neg (by omega)] at h
  have e : double.word false r = r := rfl
  rw [e] at h
  rw [fv_of h]
  unfold rv
  simp only [Bool.false_eq_true, if_false]
  congr 2
  omega
theorem fv_sub {r : Nat} (h2 : r < 4503599627370496) : fv r = (r : Rat) * p2 (-1074) := by
  have h := read_word false r (by omega)
  rw [if_pos h2] at h
  have e : double.word false r = r := rfl
  rw [e] at h
  rw [fv_of h]
  rfl
theorem fin_rung {r : Nat} (h : r < 9218868437227405312) : fin r := word_fin false r h
theorem read_rung_false {r : Nat} (h : r < 9218868437227405312) : ∃ m i, double.read r = .number false m i ∧ (i = -1074 ∨ 4503599627370496 ≤ m) := by
  have h1 := read_word false r h
  have e : double.word false r = r := rfl
  rw [e] at h1
  rw [h1]
  split
  · exact ⟨_, _, rfl, .inl rfl⟩
  · exact ⟨_, _, rfl, .inr (by omega)⟩

theorem p2_mono_lt {i j : Int} (h : i < j) : p2 i < p2 j := by
  have h1 : p2 (i + 1) = 2 * p2 i := p2_succ i
  have h2 := p2_le (show i + 1 ≤ j by omega)
  have := p2_pos i
  grind

/-- Of two rungs the higher one is the greater number. -/
theorem fv_mono {r s : Nat} (h : r < s) (hs : s < 9218868437227405312) : fv r < fv s := by
  rcases Nat.lt_or_ge s 4503599627370496 with h1 | h1
  · rw [fv_sub h1, fv_sub (by omega)]
    exact Rat.mul_lt_mul_of_pos_right (Rat.natCast_lt_natCast.2 h) (p2_pos _)
  · have hup : ∀ t, 4503599627370496 ≤ t → t < 9218868437227405312 → fv t = ((4503599627370496 + t % 4503599627370496 : Nat) : Rat) * p2 ((t / 4503599627370496 : Nat) - 1075) := fun t a b => fv_norm a b
    rw [hup s h1 hs]
    have h52 : ∀ e : Int, p2 (e + 52) = ((4503599627370496 : Nat) : Rat) * p2 e := fun e => by
      rw [p2_add, Rat.mul_comm, p2_52]
    rcases Nat.lt_or_ge r 4503599627370496 with h2 | h2
    · rw [fv_sub h2]
      have a1 : (r : Rat) * p2 (-1074) < p2 (-1074 + 52) := by
        rw [h52]
        exact Rat.mul_lt_mul_of_pos_right (Rat.natCast_lt_natCast.2 h2) (p2_pos _)
      have a2 : p2 (((s / 4503599627370496 : Nat) : Int) - 1075 + 52) ≤ ((4503599627370496 + s % 4503599627370496 : Nat) : Rat) * p2 ((s / 4503599627370496 : Nat) - 1075) := by
        rw [h52]
        exact Rat.mul_le_mul_of_nonneg_right (Rat.natCast_le_natCast.2 (by omega)) (Rat.le_of_lt (p2_pos _))
      have a3 := p2_le (show -1074 + 52 ≤ ((s / 4503599627370496 : Nat) : Int) - 1075 + 52 by omega)
      exact Std.lt_of_lt_of_le a1 (Rat.le_trans a3 a2)
    · rw [hup r h2 (by omega)]
      rcases Nat.lt_or_ge (r / 4503599627370496) (s / 4503599627370496) with h3 | h3
      · have a1 : ((4503599627370496 + r % 4503599627370496 : Nat) : Rat) * p2 ((r / 4503599627370496 : Nat) - 1075) < p2 (((r / 4503599627370496 : Nat) : Int) - 1075 + 53) := by
          have h53 : p2 (((r / 4503599627370496 : Nat) : Int) - 1075 + 53) = ((9007199254740992 : Nat) : Rat) * p2 ((r / 4503599627370496 : Nat) - 1075) := by
            rw [p2_add, Rat.mul_comm, p2_53]
          rw [h53]
          exact Rat.mul_lt_mul_of_pos_right (Rat.natCast_lt_natCast.2 (by omega)) (p2_pos _)
        have a2 : p2 (((s / 4503599627370496 : Nat) : Int) - 1075 + 52) ≤ ((4503599627370496 + s % 4503599627370496 : Nat) : Rat) * p2 ((s / 4503599627370496 : Nat) - 1075) := by
          rw [h52]
          exact Rat.mul_le_mul_of_nonneg_right (Rat.natCast_le_natCast.2 (by omega)) (Rat.le_of_lt (p2_pos _))
        have a3 := p2_le (show ((r / 4503599627370496 : Nat) : Int) - 1075 + 53 ≤ ((s / 4503599627370496 : Nat) : Int) - 1075 + 52 by omega)
        exact Std.lt_of_lt_of_le a1 (Rat.le_trans a3 a2)
      · have e : r / 4503599627370496 = s / 4503599627370496 := by omega
        rw [e]
        exact Rat.mul_lt_mul_of_pos_right (Rat.natCast_lt_natCast.2 (by omega)) (p2_pos _)
theorem fv_inj_lt {r s : Nat} (hr : r < 9218868437227405312) (h : fv r < fv s) : r < s := by
  rcases Nat.lt_or_ge r s with h1 | h1
  · exact h1
  · rcases Nat.lt_or_ge s r with h2 | h2
    · exact absurd (Std.lt_trans h (fv_mono h2 hr)) Rat.lt_irrefl
    · have : r = s := by omega
      subst this
      exact absurd h Rat.lt_irrefl
theorem fv_le {r s : Nat} (h : r ≤ s) (hs : s < 9218868437227405312) : fv r ≤ fv s := by
  rcases Nat.lt_or_ge r s with h1 | h1
  · exact Rat.le_of_lt (fv_mono h1 hs)
  · have : r = s := by omega
    subst this; exact Rat.le_refl

theorem place_le {m n : Nat} {i j : Int} (hm : m < 9007199254740992) (cy : j = -1074 ∨ 4503599627370496 ≤ n) (hi : -1074 ≤ i) (h1 : (n : Rat) * p2 j ≤ (m : Rat) * p2 i) : j ≤ i := by
  rcases Int.lt_or_le i j with h | h
  · exfalso
    have hn : 4503599627370496 ≤ n := by omega
    have a1 : ((9007199254740992 : Nat) : Rat) * p2 i ≤ (n : Rat) * p2 j := by
      have e1 : ((9007199254740992 : Nat) : Rat) * p2 i = ((4503599627370496 : Nat) : Rat) * p2 (i + 1) := by
        rw [p2_succ]
        have : (9007199254740992 : Nat) = 4503599627370496 * 2 := rfl
        rw [this, Rat.natCast_mul]
        have : ((2 : Nat) : Rat) = 2 := rfl
        rw [this]; grind
      rw [e1]
      exact mul_mono Rat.natCast_nonneg (Rat.le_of_lt (p2_pos _)) (Rat.natCast_le_natCast.2 hn) (p2_le (by omega))
    have a2 : (m : Rat) * p2 i < ((9007199254740992 : Nat) : Rat) * p2 i := Rat.mul_lt_mul_of_pos_right (Rat.natCast_lt_natCast.2 hm) (p2_pos i)
    exact absurd (Std.lt_of_lt_of_le a2 a1) (Rat.not_lt.2 h1)
  · exact h

theorem tot_val (m n : Nat) (i j : Int) : ((signed false m (i - min i j).toNat + signed true n (j - min i j).toNat : Int) : Rat) * p2 (min i j) = (m : Rat) * p2 i - (n : Rat) * p2 j := by
  rw [Rat.intCast_add, Rat.add_mul, signed_cast, signed_cast]
  have e1 : min i j + ((i - min i j).toNat : Int) = i := by omega
  have e2 : min i j + ((j - min i j).toNat : Int) = j := by omega
  rw [e1, e2]
  unfold rv
  simp
  grind
theorem nonneg_of {t : Int} {q z : Rat} (hq : 0 < q) (h : (t : Rat) * q = z) (hz : 0 ≤ z) : 0 ≤ t := by
  rcases Int.lt_or_le t 0 with h1 | h1
  · have a : (t : Rat) < ((0 : Int) : Rat) := Rat.intCast_lt_intCast.2 h1
    have b := Rat.mul_lt_mul_of_pos_right a hq
    rw [h] at b
    have : ((0 : Int) : Rat) = 0 := rfl
    grind
  · exact h1
theorem sub_lt_of {a b : Rat} (h : a < 2 * b) : a - b < b := by grind
theorem sub_ge_of {a b : Rat} (h : b ≤ a) : 0 ≤ a - b := by grind
theorem word_false (r : Nat) : double.word false r = r := rfl
theorem rng_zero (j : Int) : rng 0 j = 0 := by unfold rng; rw [if_pos rfl]
/-- A difference that is exact: of a number and one that is at least its half. -/
theorem sub_exact {r l : Nat} (hr : r < 9218868437227405312) (hl : l < 9218868437227405312) (h1 : fv l ≤ fv r) (h2 : fv r < 2 * fv l) :
    ∃ d, double.sub r l = some d ∧ d < 9218868437227405312 ∧ fv d = fv r - fv l := by
  obtain ⟨m, i, hx, cx⟩ := read_rung_false hr
  obtain ⟨n, j, hy, cy⟩ := read_rung_false hl
  have bx := max_fin hx
  have byy := max_fin hy
  rw [fv_of hx, fv_of hy] at h1 h2 ⊢
  simp only [rv_pos_eq] at h1 h2 ⊢
  have hij : j ≤ i := place_le bx.1 cy bx.2.1 h1
  have hmin : min i j = j := by omega
  obtain ⟨tot, htot⟩ : ∃ tot, tot = signed false m (i - min i j).toNat + signed true n (j - min i j).toNat := ⟨_, rfl⟩
  have hsub : double.sub r l = some (double.nearest (if tot = 0 then false && true else decide (tot < 0)) tot.natAbs (min i j)) := by
    unfold Format.sub
    rw [hx, hy, htot]
    rfl
  have hval : (tot : Rat) * p2 j = (m : Rat) * p2 i - (n : Rat) * p2 j := by
    have := tot_val m n i j
    rw [← htot, hmin] at this
    exact this
  have hpj := p2_pos j
  have ht0 : 0 ≤ tot := nonneg_of hpj hval (sub_ge_of h1)
  obtain ⟨k, rfl⟩ : ∃ k : Nat, tot = k := ⟨tot.toNat, by omega⟩
  rw [Rat.intCast_natCast] at hval
  have hkn : k < n := by
    have a : (k : Rat) * p2 j < (n : Rat) * p2 j := by rw [hval]; exact sub_lt_of h2
    exact Rat.natCast_lt_natCast.1 ((Rat.mul_lt_mul_right hpj).1 a)
  have hsg : (if (k : Int) = 0 then false && true else decide ((k : Int) < 0)) = false := by
    split
    · rfl
    · simp
  rw [hsub, hsg, hmin, Int.natAbs_natCast, nearest_word, word_false]
  refine ⟨_, rfl, ?_⟩
  rw [← hval]
  rcases Nat.eq_zero_or_pos k with h0 | h0
  · subst h0
    rw [rng_zero]
    refine ⟨by omega, ?_⟩
    have := fv_zero false
    rw [word_false] at this
    rw [this]
    have : ((0 : Nat) : Rat) = 0 := rfl
    rw [this, Rat.zero_mul]
  · obtain ⟨a1, a2, a3⟩ := near_exact false k j k j h0 rfl (by omega) byy.2.1 byy.2.2
    rw [nearest_word, word_false] at a3
    exact ⟨a1, a3⟩

/-! ### Frexp, Ldexp and Mod: what they reckon with -/
def nrm (r : Nat) : Nat := if r < 4503599627370496 then rng (r * 4503599627370496) (-1074) else r
def nex (r : Nat) : Int := if r < 4503599627370496 then -52 else 0
theorem p2_split {i a b : Int} (h : i = a + b) : p2 i = p2 a * p2 b := by rw [h, p2_add]
/-- The significand of 53 bits, and its place. -/
def mant (r : Nat) : Nat := 4503599627370496 + nrm r % 4503599627370496
def expo (r : Nat) : Int := nex r + ((nrm r / 4503599627370496 : Nat) : Int) - 1075

theorem read_sub {r : Nat} (h : r < 4503599627370496) : double.read r = .number false r (-1074) := by
  have := read_word false r (by omega)
  rw [if_pos h, word_false] at this
  exact this
theorem read_c52 : double.read 4841369599423283200 = .number false 4503599627370496 0 := by rfl
theorem read_one : double.read 4607182418800017408 = .number false 4503599627370496 (-52) := by rfl
theorem read_m53 : double.read 4368491638549381120 = .number false 4503599627370496 (-105) := by rfl

theorem nrm_mul {r : Nat} (h : r < 4503599627370496) : double.mul r 4841369599423283200 = some (nrm r) := by
  have e : nrm r = rng (r * 4503599627370496) (-1074) := by unfold nrm; rw [if_pos h]
  rw [e]
  unfold Format.mul
  rw [read_sub h, read_c52]
  have e2 : Option.map double.write ((Datum.number false r (-1074)).product (Datum.number false 4503599627370496 0)) = some (double.nearest false (r * 4503599627370496) (-1074)) := rfl
  rw [e2, nearest_word, word_false]

theorem nrm_spec {r : Nat} (h0 : 0 < r) (h1 : r < 9218868437227405312) : 4503599627370496 ≤ nrm r ∧ nrm r < 9218868437227405312 ∧ fv r = fv (nrm r) * p2 (nex r) := by
  rcases Nat.lt_or_ge r 4503599627370496 with h | h
  · have e : nrm r = rng (r * 4503599627370496) (-1074) := by unfold nrm; rw [if_pos h]
    have en : nex r = -52 := by unfold nex; rw [if_pos h]
    have hv : ((r * 4503599627370496 : Nat) : Rat) * p2 (-1074) = (r : Rat) * p2 (-1022) := by
      have : p2 (-1022) = p2 (-1074) * p2 52 := p2_split (by omega)
      rw [this, p2_52, Rat.natCast_mul]; grind
    obtain ⟨a1, a2, a3⟩ := near_exact false (r * 4503599627370496) (-1074) r (-1022) (Nat.mul_pos h0 (by omega)) hv (by omega) (by omega) (by omega)
    rw [nearest_word, word_false, ← e] at a3
    rw [← e] at a1
    have a4 : fv (nrm r) = (r : Rat) * p2 (-1022) := by rw [a3, rv_pos_eq, hv]
    refine ⟨?_, a1, ?_⟩
    · rcases Nat.lt_or_ge (nrm r) 4503599627370496 with h2 | h2
      · exfalso
        have b := fv_mono h2 (by omega)
        have c := fv_norm (r := 4503599627370496) (by omega) (by omega)
        have d : ((4503599627370496 / 4503599627370496 : Nat) : Int) - 1075 = -1074 := by decide
        have e4 : 4503599627370496 + 4503599627370496 % 4503599627370496 = 4503599627370496 := by decide
        rw [d, e4] at c
        have f : p2 (-1022) = ((4503599627370496 : Nat) : Rat) * p2 (-1074) := by
          have : p2 (-1022) = p2 52 * p2 (-1074) := p2_split (by omega)
          rw [this, p2_52]
        rw [a4, c, ← f] at b
        have g : ((1 : Nat) : Rat) * p2 (-1022) ≤ (r : Rat) * p2 (-1022) := Rat.mul_le_mul_of_nonneg_right (Rat.natCast_le_natCast.2 h0) (Rat.le_of_lt (p2_pos _))
        have h1' : ((1 : Nat) : Rat) = 1 := rfl
        rw [h1', Rat.one_mul] at g
        exact absurd b (Rat.not_lt.2 g)
      · exact h2
    · have : p2 (-1074) = p2 (-1022) * p2 (-52) := p2_split (by omega)
      rw [a4, en, fv_sub h, Rat.mul_assoc, this]
  · have e : nrm r = r := by unfold nrm; rw [if_neg (by omega)]
    have en : nex r = 0 := by unfold nex; rw [if_neg (by omega)]
    rw [e, en]
    refine ⟨h, h1, ?_⟩
    have : p2 0 = 1 := rfl
    rw [this, Rat.mul_one]

theorem mant_spec {r : Nat} (h0 : 0 < r) (h1 : r < 9218868437227405312) : fv r = (mant r : Rat) * p2 (expo r) ∧ 4503599627370496 ≤ mant r ∧ mant r < 9007199254740992 ∧ expo r ≤ 971 ∧ -1126 ≤ expo r ∧ (nex r = 0 ∨ nex r = -52) := by
  obtain ⟨a, b, c⟩ := nrm_spec h0 h1
  refine ⟨?_, ?_, ?_, ?_, ?_, ?_⟩
  · rw [c, fv_norm a b, Rat.mul_assoc, ← p2_add]
    unfold mant expo
    congr 2
    omega
  · unfold mant; omega
  · unfold mant; omega
  · unfold expo nex; split <;> omega
  · unfold expo nex; split <;> omega
  · unfold nex; split <;> simp

theorem mul_exact {a b : Nat} {m n : Nat} {i j : Int} (ha : double.read a = .number false m i) (hb : double.read b = .number false n j) (hm : 0 < m) (hn : 0 < n) (K : Nat) (l : Int)
    (hv : (m : Rat) * p2 i * ((n : Rat) * p2 j) = (K : Rat) * p2 l) (hK : K < 9007199254740992) (hl : -1074 ≤ l) (hl1 : l ≤ 971) :
    ∃ c, double.mul a b = some c ∧ c < 9218868437227405312 ∧ fv c = (K : Rat) * p2 l := by
  have e : ((m * n : Nat) : Rat) * p2 (i + j) = (K : Rat) * p2 l := by rw [← hv, Rat.natCast_mul, p2_add]; grind
  obtain ⟨a1, a2, a3⟩ := near_exact false (m * n) (i + j) K l (Nat.mul_pos hm hn) e hK hl hl1
  have e2 : double.mul a b = some (double.nearest false (m * n) (i + j)) := by
    unfold Format.mul
    rw [ha, hb]
    rfl
  rw [nearest_word, word_false] at a3 e2
  exact ⟨_, e2, a1, by rw [a3, rv_pos_eq, e]⟩

theorem fv_word {M : Nat} {E : Nat} (h1 : 4503599627370496 ≤ M) (h2 : M < 9007199254740992) (hE : 1 ≤ E) (hE2 : E ≤ 2046) :
    E * 4503599627370496 + (M - 4503599627370496) < 9218868437227405312 ∧ 4503599627370496 ≤ E * 4503599627370496 + (M - 4503599627370496) ∧ fv (E * 4503599627370496 + (M - 4503599627370496)) = (M : Rat) * p2 ((E : Int) - 1075) := by
  have a : E * 4503599627370496 + (M - 4503599627370496) < 9218868437227405312 := by omega
  have b : 4503599627370496 ≤ E * 4503599627370496 + (M - 4503599627370496) := by omega
  refine ⟨a, b, ?_⟩
  rw [fv_norm b a]
  have c : 4503599627370496 + (E * 4503599627370496 + (M - 4503599627370496)) % 4503599627370496 = M := by omega
  have d : (E * 4503599627370496 + (M - 4503599627370496)) / 4503599627370496 = E := by omega
  rw [c, d]

/-- Ldexp: a word, and what it is times. -/
theorem ldexp_up {y : Nat} (h0 : 0 < y) (h1 : y < 9218868437227405312) (k : Int) (_hk : 0 ≤ k) (E : Nat) (hE : (E : Int) = k + expo y + 1075) (h2 : 1 ≤ E) (h3 : E ≤ 2046) :
    ∃ c, double.mul 4607182418800017408 (E * 4503599627370496 + (mant y - 4503599627370496)) = some c ∧ c < 9218868437227405312 ∧ fv c = fv y * p2 k := by
  obtain ⟨a, b, c, d, e, -⟩ := mant_spec h0 h1
  obtain ⟨w1, w2, w3⟩ := fv_word b c h2 h3
  obtain ⟨m, i, hr, hc⟩ := read_rung_false w1
  have hval : (m : Rat) * p2 i = (mant y : Rat) * p2 ((E : Int) - 1075) := by rw [← w3, fv_of hr, rv_pos_eq]
  have hm : 0 < m := by
    rcases Nat.eq_zero_or_pos m with h | h
    · subst h
      have : ((0 : Nat) : Rat) = 0 := rfl
      rw [this, Rat.zero_mul] at hval
      have := Rat.mul_pos (Rat.natCast_pos.2 (show 0 < mant y by omega)) (p2_pos ((E : Int) - 1075))
      rw [← hval] at this
      exact absurd this Rat.lt_irrefl
    · exact h
  have h52 : ((4503599627370496 : Nat) : Rat) * p2 (-52) = 1 := by
    rw [← p2_52, ← p2_split (show (0 : Int) = 52 + -52 by omega)]; rfl
  obtain ⟨x, hx1, hx2, hx3⟩ := mul_exact read_one hr (by omega) hm (mant y) ((E : Int) - 1075) (by rw [h52, Rat.one_mul, hval]) c (by omega) (by omega)
  refine ⟨x, hx1, hx2, ?_⟩
  have hs : p2 ((E : Int) - 1075) = p2 (expo y) * p2 k := p2_split (by omega)
  rw [hx3, a, hs, Rat.mul_assoc]

theorem ldexp_low {y : Nat} (h0 : 0 < y) (h1 : y < 9218868437227405312) (k : Int) (hk : 0 ≤ k) (E : Nat) (hE : (E : Int) = k + expo y + 1128) (h2 : 1 ≤ E) (h3 : E ≤ 53) :
    ∃ c, double.mul 4368491638549381120 (E * 4503599627370496 + (mant y - 4503599627370496)) = some c ∧ c < 9218868437227405312 ∧ fv c = fv y * p2 k := by
  obtain ⟨a, b, c, d, e, -⟩ := mant_spec h0 h1
  obtain ⟨w1, w2, w3⟩ := fv_word b c h2 (by omega)
  obtain ⟨m, i, hr, hc⟩ := read_rung_false w1
  obtain ⟨n, j, hy, hcy⟩ := read_rung_false h1
  have bd := max_fin hy
  have hval : (m : Rat) * p2 i = (mant y : Rat) * p2 ((E : Int) - 1075) := by rw [← w3, fv_of hr, rv_pos_eq]
  have hpos : 0 < (mant y : Rat) := Rat.natCast_pos.2 (by omega)
  have hm : 0 < m := by
    rcases Nat.eq_zero_or_pos m with h | h
    · subst h
      have : ((0 : Nat) : Rat) = 0 := rfl
      rw [this, Rat.zero_mul] at hval
      have := Rat.mul_pos hpos (p2_pos ((E : Int) - 1075))
      rw [← hval] at this
      exact absurd this Rat.lt_irrefl
    · exact h
  have hyv : fv y = (n : Rat) * p2 j := by rw [fv_of hy, rv_pos_eq]
  have h52 : ((4503599627370496 : Nat) : Rat) * p2 (-105) = p2 (-53) := by
    rw [← p2_52, ← p2_split (show (-53 : Int) = 52 + -105 by omega)]
  have hprod : ((4503599627370496 : Nat) : Rat) * p2 (-105) * ((m : Rat) * p2 i) = (n : Rat) * p2 (j + k) := by
    have e1 : p2 ((E : Int) - 1075) = p2 (expo y) * p2 (k + 53) := p2_split (by omega)
    have e2 : p2 (k + 53) = p2 k * p2 53 := p2_add k 53
    have e3 : p2 (-53) * p2 53 = 1 := by rw [← p2_split (show (0 : Int) = -53 + 53 by omega)]; rfl
    rw [h52, hval, p2_add j k, e1, e2]
    rw [a] at hyv
    have : p2 (-53) * ((mant y : Rat) * (p2 (expo y) * (p2 k * p2 53))) = (mant y : Rat) * p2 (expo y) * p2 k * (p2 (-53) * p2 53) := by grind
    rw [this, e3, hyv]; grind
  have hn : 0 < n := by
    rcases Nat.eq_zero_or_pos n with h | h
    · subst h
      have : ((0 : Nat) : Rat) = 0 := rfl
      rw [this, Rat.zero_mul, a] at hyv
      have := Rat.mul_pos hpos (p2_pos (expo y))
      rw [hyv] at this
      exact absurd this Rat.lt_irrefl
    · exact h
  have hj : j + k ≤ 971 := by
    have b1 : p2 (j + k) ≤ (n : Rat) * p2 (j + k) := by
      have := Rat.mul_le_mul_of_nonneg_right (Rat.natCast_le_natCast.2 hn) (Rat.le_of_lt (p2_pos (j + k)))
      have e1 : ((0 + 1 : Nat) : Rat) = 1 := rfl
      rw [e1, Rat.one_mul] at this
      exact this
    have b2 : (n : Rat) * p2 (j + k) = (mant y : Rat) * p2 (expo y + k) := by
      rw [p2_add, p2_add, ← Rat.mul_assoc, ← Rat.mul_assoc, ← hyv, a]
    have b3 : (mant y : Rat) * p2 (expo y + k) < p2 53 * p2 (expo y + k) := by
      rw [p2_53]
      exact Rat.mul_lt_mul_of_pos_right (Rat.natCast_lt_natCast.2 c) (p2_pos _)
    rw [← p2_add] at b3
    rw [b2] at b1
    have := p2_lt_iff (Std.lt_of_le_of_lt b1 b3)
    omega
  obtain ⟨x, hx1, hx2, hx3⟩ := mul_exact read_m53 hr (by omega) hm n (j + k) hprod bd.1 (by omega) hj
  refine ⟨x, hx1, hx2, ?_⟩
  rw [hx3, hyv, p2_add, Rat.mul_assoc]

/-- A round of Mod: by how much the divisor is shifted, and what the shifted one is to the rest. -/
theorem mod_shift {r y : Nat} (hy0 : 0 < y) (hyr : y ≤ r) (hr : r < 9218868437227405312) (k : Int) (hk : k = (if mant r < mant y then expo r - 1 else expo r) - expo y) :
    0 ≤ k ∧ k + expo y + 52 ≤ 1023 ∧ -1074 ≤ k + expo y + 52 ∧ fv y * p2 k ≤ fv r ∧ fv r < 2 * (fv y * p2 k) ∧ 0 < fv y * p2 k := by
  obtain ⟨a, b, c, d, e, -⟩ := mant_spec (r := r) (by omega) hr
  obtain ⟨a', b', c', d', e', -⟩ := mant_spec (r := y) hy0 (by omega)
  have hle := fv_le hyr hr
  have hpos : 0 < fv y := by rw [a']; exact Rat.mul_pos (Rat.natCast_pos.2 (by omega)) (p2_pos _)
  have hEE : expo y ≤ expo r := by
    rcases Int.lt_or_le (expo r) (expo y) with h | h
    · exfalso
      have b1 : fv r < p2 53 * p2 (expo r) := by
        rw [a, p2_53]
        exact Rat.mul_lt_mul_of_pos_right (Rat.natCast_lt_natCast.2 c) (p2_pos _)
      have b2 : p2 52 * p2 (expo y) ≤ fv y := by
        rw [a', p2_52]
        exact Rat.mul_le_mul_of_nonneg_right (Rat.natCast_le_natCast.2 b') (Rat.le_of_lt (p2_pos _))
      rw [← p2_add] at b1 b2
      have b3 := p2_le (show 53 + expo r ≤ 52 + expo y by omega)
      exact absurd (Std.lt_of_lt_of_le b1 (Rat.le_trans b3 b2)) (Rat.not_lt.2 hle)
    · exact h
  have hE0 : expo y = expo r → mant y ≤ mant r := by
    intro h
    rw [a, a', h] at hle
    exact Rat.natCast_le_natCast.1 (Rat.le_of_mul_le_mul_right hle (p2_pos _))
  have hlow : -1074 ≤ expo y + 52 := by
    obtain ⟨n, j, hy, hcy⟩ := read_rung_false (show y < 9218868437227405312 by omega)
    have bd := max_fin hy
    have hn : 0 < n := by
      rcases Nat.eq_zero_or_pos n with h | h
      · subst h
        rw [fv_of hy, rv_pos_eq] at hpos
        have : ((0 : Nat) : Rat) = 0 := rfl
        rw [this, Rat.zero_mul] at hpos
        exact absurd hpos Rat.lt_irrefl
      · exact h
    have b1 : p2 j ≤ fv y := by
      rw [fv_of hy, rv_pos_eq]
      have := Rat.mul_le_mul_of_nonneg_right (Rat.natCast_le_natCast.2 hn) (Rat.le_of_lt (p2_pos j))
      have e1 : ((0 + 1 : Nat) : Rat) = 1 := rfl
      rw [e1, Rat.one_mul] at this
      exact this
    have b2 : fv y < p2 53 * p2 (expo y) := by
      rw [a', p2_53]
      exact Rat.mul_lt_mul_of_pos_right (Rat.natCast_lt_natCast.2 c') (p2_pos _)
    rw [← p2_add] at b2
    have := p2_lt_iff (Std.lt_of_le_of_lt b1 b2)
    omega
  by_cases hm : mant r < mant y
  · rw [if_pos hm] at hk
    have hne : expo y < expo r := by
      rcases Int.lt_or_le (expo y) (expo r) with h | h
      · exact h
      · have := hE0 (by omega); omega
    have hval : fv y * p2 k = (mant y : Rat) * p2 (expo r - 1) := by
      rw [a', Rat.mul_assoc, ← p2_add]; congr 2; omega
    have h2 : p2 (expo r) = 2 * p2 (expo r - 1) := p2_s (by omega)
    have hp := p2_pos (expo r - 1)
    rw [hval, a, h2]
    refine ⟨by omega, by omega, by omega, ?_, ?_, Rat.mul_pos (Rat.natCast_pos.2 (by omega)) hp⟩
    · have c1 : ((mant y : Nat) : Rat) ≤ ((mant r * 2 : Nat) : Rat) := Rat.natCast_le_natCast.2 (by omega)
      have c2 := Rat.mul_le_mul_of_nonneg_right c1 (Rat.le_of_lt hp)
      rw [Rat.natCast_mul, Rat.mul_assoc] at c2
      exact c2
    · have c1 : ((mant r : Nat) : Rat) < ((mant y : Nat) : Rat) := Rat.natCast_lt_natCast.2 hm
      have c2 := Rat.mul_lt_mul_of_pos_right c1 hp
      have e1 : (mant r : Rat) * (2 * p2 (expo r - 1)) = 2 * ((mant r : Rat) * p2 (expo r - 1)) := by rw [← Rat.mul_assoc, Rat.mul_comm (mant r : Rat) 2, Rat.mul_assoc]
      rw [e1]
      exact Rat.mul_lt_mul_of_pos_left c2 (by decide)
  · rw [if_neg hm] at hk
    have hval : fv y * p2 k = (mant y : Rat) * p2 (expo r) := by
      rw [a', Rat.mul_assoc, ← p2_add]; congr 2; omega
    have hp := p2_pos (expo r)
    rw [hval, a]
    refine ⟨by omega, by omega, by omega, ?_, ?_, Rat.mul_pos (Rat.natCast_pos.2 (by omega)) hp⟩
    · exact Rat.mul_le_mul_of_nonneg_right (Rat.natCast_le_natCast.2 (by omega)) (Rat.le_of_lt hp)
    · have c1 : ((mant r : Nat) : Rat) < ((2 * mant y : Nat) : Rat) := Rat.natCast_lt_natCast.2 (by omega)
      have c2 := Rat.mul_lt_mul_of_pos_right c1 hp
      rw [Rat.natCast_mul, Rat.mul_assoc] at c2
      exact c2

theorem ord_lt_rung {r s : Nat} (hr : r < 9218868437227405312) (hs : s < 9218868437227405312) : (double.order r s == some .lt) = decide (r < s) := by
  rw [ord_lt (fin_rung hr) (fin_rung hs), Bool.eq_iff_iff]
  simp only [decide_eq_true_eq]
  exact ⟨fun h => fv_inj_lt hr h, fun h => fv_mono h hs⟩
theorem ord_gt_rung {r s : Nat} (hr : r < 9218868437227405312) (hs : s < 9218868437227405312) : (double.order r s == some .gt) = decide (s < r) := by
  rw [ord_gt (fin_rung hr) (fin_rung hs), Bool.eq_iff_iff]
  simp only [decide_eq_true_eq]
  exact ⟨fun h => fv_inj_lt hs h, fun h => fv_mono h hr⟩
theorem ord_eq_rung {r s : Nat} (hr : r < 9218868437227405312) (hs : s < 9218868437227405312) : (double.order r s == some .eq) = decide (r = s) := by
  rw [ord_eq (fin_rung hr) (fin_rung hs), Bool.eq_iff_iff]
  simp only [decide_eq_true_eq]
  constructor
  · intro h
    rcases Nat.lt_trichotomy r s with h1 | h1 | h1
    · exact absurd (fv_mono h1 hs) (by rw [h]; exact Rat.lt_irrefl)
    · exact h1
    · exact absurd (fv_mono h1 hr) (by rw [h]; exact Rat.lt_irrefl)
  · rintro rfl; rfl
end Go.Proofs.Ytkbjcpeogecbgaa
