/- Rounding to the nearest double, as the model's core has it: what it gives, in rational numbers. No Go in sight. -/
import Ieee.Arith
import Derived.Laws.FloatBits
namespace Go.Proofs.Qxb6608579a
open Ieee

/-- 2 to the power of a whole number. -/
def p2 (e : Int) : Rat := (2 : Rat) ^ e

theorem p2_pos (e : Int) : 0 < p2 e := Rat.zpow_pos (by decide)
theorem p2_add (a b : Int) : p2 (a + b) = p2 a * p2 b := Rat.zpow_add (by decide) a b
theorem p2_nat (n : Nat) : p2 (n : Int) = ((2 ^ n : Nat) : Rat) := by
  unfold p2
  rw [Rat.zpow_natCast, Rat.natCast_pow]
  rfl
theorem p2_zero : p2 0 = 1 := by decide +kernel
theorem p2_succ (e : Int) : p2 (e + 1) = 2 * p2 e := by
  rw [p2_add, show p2 1 = 2 from by decide +kernel]; grind
theorem p2_mono {a b : Int} (h : a ≤ b) : p2 a ≤ p2 b := by
  obtain ⟨n, rfl⟩ : ∃ n : Nat, b = a + n := ⟨(b - a).toNat, by omega⟩
  rw [p2_add, p2_nat]
  have h1 : (1 : Rat) ≤ ((2 ^ n : Nat) : Rat) := by
    have : (1 : Nat) ≤ 2 ^ n := Nat.one_le_two_pow
    exact_mod_cast this
  have := Rat.mul_le_mul_of_nonneg_left h1 (Rat.le_of_lt (p2_pos a))
  grind

/-! ### The cut -/
/-- The whole number nearest to n / 2 ^ drop, ties to even. -/
theorem cut_spec (neg : Bool) (n drop : Nat) :
    ∃ k, Toward.even.cut neg n drop = k ∧ 2 * (k * 2 ^ drop) ≤ 2 * n + 2 ^ drop ∧ 2 * n ≤ 2 * (k * 2 ^ drop) + 2 ^ drop ∧
      (2 * n = 2 * (k * 2 ^ drop) + 2 ^ drop → k % 2 = 0) ∧ (2 * (k * 2 ^ drop) = 2 * n + 2 ^ drop → k % 2 = 0) := by
  refine ⟨_, rfl, ?_⟩
  unfold Toward.cut
  simp only [Nat.one_shiftLeft]
  by_cases hd : drop ≤ n.log2 + 2
  · rw [Nat.min_eq_left hd]
    have hp : 0 < 2 ^ drop := Nat.two_pow_pos _
    have hdm := Nat.div_add_mod n (2 ^ drop)
    have hr := Nat.mod_lt n hp
    generalize hq : n / 2 ^ drop = q at *
    generalize hg : n % 2 ^ drop = r at *
    generalize 2 ^ drop = G at *
    rw [Nat.mul_comm] at hdm
    rcases Nat.lt_trichotomy G (2 * r) with h | h | h
    · have e1 : decide (G < 2 * r) = true := by simpa using h
      simp [e1, Nat.add_mul]
      omega
    · have e1 : decide (G < 2 * r) = false := by simp; omega
      have e2 : (G == 2 * r) = true := by simpa using h
      rcases Nat.mod_two_eq_zero_or_one q with e | e
      · simp [e1, e]
        omega
      · simp [e1, e2, e, Nat.add_mul]
        omega
    · have e1 : decide (G < 2 * r) = false := by simp; omega
      have e2 : (G == 2 * r) = false := by simp; omega
      simp [e1, e2]
      omega
  · rw [Nat.min_eq_right (by omega)]
    have hn : n < 2 ^ (n.log2 + 1) := Nat.lt_log2_self
    have h2 : 2 ^ (n.log2 + 2) = 2 * 2 ^ (n.log2 + 1) := by rw [Nat.pow_succ 2 (n.log2 + 1)]; omega
    have h3 : 2 ^ (n.log2 + 2) ≤ 2 ^ drop := Nat.pow_le_pow_right (by decide) (by omega)
    have hq : n / 2 ^ (n.log2 + 2) = 0 := Nat.div_eq_of_lt (by omega)
    have hr : n % 2 ^ (n.log2 + 2) = n := Nat.mod_eq_of_lt (by omega)
    rw [hq, hr]
    have e1 : decide (2 ^ (n.log2 + 2) < 2 * n) = false := by simp; omega
    have e2 : (2 ^ (n.log2 + 2) == 2 * n) = false := by simp; omega
    simp [e1, e2]
    omega

/-! ### The nearest double -/
/-- The place of the last digit that is kept. -/
def lastOf (mag : Nat) (place : Int) : Int := max (place + mag.log2 - 52) (-1074)

theorem p2_mul_nat (b : Nat) (e : Int) (x : Nat) : ((x * 2 ^ b : Nat) : Rat) * p2 e = (x : Rat) * p2 (b + e) := by
  rw [p2_add, p2_nat, Rat.natCast_mul, Rat.mul_assoc]

theorem nat_of_lt {k n : Nat} (h : (k : Rat) < (n : Rat) + 1) : k ≤ n := by
  rcases Nat.lt_or_ge n k with h' | h'
  · have h1 : ((n + 1 : Nat) : Rat) ≤ (k : Rat) := Rat.natCast_le_natCast.2 h'
    rw [Rat.natCast_add] at h1
    have : ((1 : Nat) : Rat) = 1 := rfl
    grind
  · exact h'

theorem nearest_parts (neg : Bool) (mag : Nat) (place : Int) (hm : mag ≠ 0) :
    ∃ kept : Nat, double.nearest neg mag place = double.word neg (min ((lastOf mag place + 1074).toNat * 4503599627370496 + kept) double.infRung) ∧
      kept ≤ 9007199254740992 ∧ (-1074 < lastOf mag place → 4503599627370496 ≤ kept) ∧
      2 * ((kept : Rat) * p2 (lastOf mag place)) ≤ 2 * ((mag : Rat) * p2 place) + p2 (lastOf mag place) ∧
      2 * ((mag : Rat) * p2 place) ≤ 2 * ((kept : Rat) * p2 (lastOf mag place)) + p2 (lastOf mag place) ∧
      (2 * ((mag : Rat) * p2 place) = 2 * ((kept : Rat) * p2 (lastOf mag place)) + p2 (lastOf mag place) → kept % 2 = 0) ∧
      (2 * ((kept : Rat) * p2 (lastOf mag place)) = 2 * ((mag : Rat) * p2 place) + p2 (lastOf mag place) → kept % 2 = 0) ∧
      (-1074 < lastOf mag place → 4503599627370496 * p2 (lastOf mag place) ≤ (mag : Rat) * p2 place) ∧ (mag : Rat) * p2 place < 9007199254740992 * p2 (lastOf mag place) := by
  obtain ⟨last, hl⟩ : ∃ last, last = lastOf mag place := ⟨_, rfl⟩
  obtain ⟨a, ha⟩ : ∃ a, a = (place - last).toNat := ⟨_, rfl⟩
  obtain ⟨b, hb⟩ : ∃ b, b = (last - place).toNat := ⟨_, rfl⟩
  obtain ⟨k, hk, c1, c2, c3, c4⟩ := cut_spec neg (mag * 2 ^ a) b
  have hnear : double.nearest neg mag place = double.word neg (min ((last + 1074).toNat * 4503599627370496 + k) double.infRung) := by
    unfold Format.nearest
    rw [if_neg hm]
    have e1 : double.fractionBits = 52 := rfl
    have e2 : double.leastPlace = -1074 := by decide
    have e3 : double.binade = 4503599627370496 := by decide
    simp only [e1, e2, e3, Nat.shiftLeft_eq]
    have e4 : max (place + (mag.log2 : Int) - ((52 : Nat) : Int)) (-1074) = last := by rw [hl]; rfl
    rw [e4, ← ha, ← hb, hk]
    rw [show last - -1074 = last + 1074 by omega]
  have hpow : (b : Int) + (place - a) = last := by omega
  have hpow2 : (a : Int) + (place - a) = place := by omega
  have hpos : 0 < p2 (place - a) := p2_pos _
  have s1 : ((k * 2 ^ b : Nat) : Rat) * p2 (place - a) = (k : Rat) * p2 last := by rw [p2_mul_nat, hpow]
  have s2 : ((mag * 2 ^ a : Nat) : Rat) * p2 (place - a) = (mag : Rat) * p2 place := by rw [p2_mul_nat, hpow2]
  have s3 : ((2 ^ b : Nat) : Rat) * p2 (place - a) = p2 last := by
    have := p2_mul_nat b (place - a) 1
    rw [Nat.one_mul, hpow] at this
    rw [this]
    have : ((1 : Nat) : Rat) = 1 := rfl
    grind
  have up : ∀ x y z : Nat, 2 * x ≤ 2 * y + z → 2 * ((x : Rat) * p2 (place - a)) ≤ 2 * ((y : Rat) * p2 (place - a)) + (z : Rat) * p2 (place - a) := fun x y z h => by
    have h' : ((2 * x : Nat) : Rat) ≤ ((2 * y + z : Nat) : Rat) := Rat.natCast_le_natCast.2 h
    rw [Rat.natCast_mul, Rat.natCast_add, Rat.natCast_mul] at h'
    have := Rat.mul_le_mul_of_nonneg_left h' (Rat.le_of_lt hpos)
    have two : ((2 : Nat) : Rat) = 2 := rfl
    grind
  have d1 := up _ _ _ c1
  have d2 := up _ _ (2 ^ b) c2
  rw [s1, s2, s3] at d1 d2
  have d3 : 2 * ((mag : Rat) * p2 place) = 2 * ((k : Rat) * p2 last) + p2 last → k % 2 = 0 := fun h => c3 (by
    rcases Nat.lt_or_ge (2 * (mag * 2 ^ a)) (2 * (k * 2 ^ b) + 2 ^ b) with h' | h'
    · exfalso
      have h2 := up (mag * 2 ^ a + 1) (k * 2 ^ b) (2 ^ b + 1) (by omega)
      rw [Rat.natCast_add, Rat.natCast_add] at h2
      have one : ((1 : Nat) : Rat) = 1 := rfl
      rw [one] at h2
      have e1 : (((mag * 2 ^ a : Nat) : Rat) + 1) * p2 (place - a) = (mag : Rat) * p2 place + p2 (place - a) := by rw [← s2]; grind
      have e2 : (((2 ^ b : Nat) : Rat) + 1) * p2 (place - a) = p2 last + p2 (place - a) := by rw [← s3]; grind
      rw [e1, e2, s1] at h2
      grind
    · omega)
  have d4 : 2 * ((k : Rat) * p2 last) = 2 * ((mag : Rat) * p2 place) + p2 last → k % 2 = 0 := fun h => c4 (by
    rcases Nat.lt_or_ge (2 * (k * 2 ^ b)) (2 * (mag * 2 ^ a) + 2 ^ b) with h' | h'
    · exfalso
      have h2 := up (k * 2 ^ b + 1) (mag * 2 ^ a) (2 ^ b + 1) (by omega)
      rw [Rat.natCast_add, Rat.natCast_add] at h2
      have one : ((1 : Nat) : Rat) = 1 := rfl
      rw [one] at h2
      have e1 : (((k * 2 ^ b : Nat) : Rat) + 1) * p2 (place - a) = (k : Rat) * p2 last + p2 (place - a) := by rw [← s1]; grind
      have e2 : (((2 ^ b : Nat) : Rat) + 1) * p2 (place - a) = p2 last + p2 (place - a) := by rw [← s3]; grind
      rw [e1, e2, s2] at h2
      grind
    · omega)
  have hL1 : 2 ^ mag.log2 ≤ mag := Nat.log2_self_le hm
  have hL2 : mag < 2 ^ (mag.log2 + 1) := Nat.lt_log2_self
  have l53 : p2 53 = 9007199254740992 := by decide +kernel
  have l52 : p2 52 = 4503599627370496 := by decide +kernel
  have hlast1 : place + mag.log2 - 52 ≤ last := by rw [hl]; unfold lastOf; omega
  have hV2 : (mag : Rat) * p2 place < 9007199254740992 * p2 last := by
    have h1 : (mag : Rat) < ((2 ^ (mag.log2 + 1) : Nat) : Rat) := Rat.natCast_lt_natCast.2 hL2
    have h2 := Rat.mul_lt_mul_of_pos_left h1 (p2_pos place)
    rw [← p2_nat, ← p2_add] at h2
    have h3 := p2_mono (show place + ((mag.log2 + 1 : Nat) : Int) ≤ 53 + last by omega)
    rw [p2_add 53 last, l53] at h3
    grind
  have hV1 : -1074 < last → 4503599627370496 * p2 last ≤ (mag : Rat) * p2 place := fun h => by
    have e : last = place + mag.log2 - 52 := by rw [hl] at h ⊢; unfold lastOf at h ⊢; omega
    have h1 : ((2 ^ mag.log2 : Nat) : Rat) ≤ (mag : Rat) := Rat.natCast_le_natCast.2 hL1
    have h2 := Rat.mul_le_mul_of_nonneg_left h1 (Rat.le_of_lt (p2_pos place))
    rw [← p2_nat, ← p2_add, show place + (mag.log2 : Int) = 52 + last by omega, p2_add, l52] at h2
    grind
  have hlp : 0 < p2 last := p2_pos _
  refine ⟨k, by rw [← hl]; exact hnear, ?_, ?_, ?_⟩
  · refine nat_of_lt ?_
    have h1 : (k : Rat) * p2 last < (9007199254740992 + 1) * p2 last := by grind
    have h2 : ((9007199254740992 : Nat) : Rat) = 9007199254740992 := rfl
    rw [h2]
    exact Rat.lt_of_mul_lt_mul_right h1 (Rat.le_of_lt hlp)
  · intro h
    rw [← hl] at h
    have h1 : (4503599627370496 : Rat) * p2 last < ((k : Rat) + 1) * p2 last := by
      have := hV1 h
      grind
    have h2 : ((4503599627370496 : Nat) : Rat) = 4503599627370496 := rfl
    refine nat_of_lt ?_
    rw [h2]
    exact Rat.lt_of_mul_lt_mul_right h1 (Rat.le_of_lt hlp)
  · rw [← hl]
    exact ⟨d1, d2, d3, d4, hV1, hV2⟩
end Go.Proofs.Qxb6608579a
