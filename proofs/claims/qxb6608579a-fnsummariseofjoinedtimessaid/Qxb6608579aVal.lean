/- Words of doubles and the numbers that they stand for; what writing a number gives. -/
import Derived.Test.Qxb6608579aRung
namespace Go.Proofs.Qxb6608579a
open Ieee

/-- The number 'm * 2 ^ p', negated if 's'. -/
def numv (s : Bool) (m : Nat) (p : Int) : Rat := if s then -((m : Rat) * p2 p) else (m : Rat) * p2 p

/-- The number that a word stands for (0 where it stands for none). -/
def val (x : Nat) : Rat := match double.read x with | .number s m p => numv s m p | _ => 0

/-- The word stands for a number. -/
def Fin (x : Nat) : Prop := ∃ s m p, double.read x = .number s m p

theorem val_of {x : Nat} {s : Bool} {m : Nat} {p : Int} (h : double.read x = .number s m p) : val x = numv s m p := by unfold val; rw [h]

theorem numv_neg (s : Bool) (m : Nat) (p : Int) : numv (!s) m p = -numv s m p := by
  unfold numv
  cases s
  · simp
  · simp

theorem read_word (neg : Bool) (R : Nat) (hR : R < 9218868437227405312) :
    double.read (double.word neg R) = if R < 4503599627370496 then .number neg R (-1074) else .number neg (4503599627370496 + R % 4503599627370496) (-1074 + ((R / 4503599627370496 - 1 : Nat) : Int)) := by
  have e1 : double.signWeight = 9223372036854775808 := by decide
  have e2 : double.leastPlace = -1074 := by decide
  have e3 : double.binade = 4503599627370496 := by decide
  have e4 : double.infRung = 9218868437227405312 := by decide
  have h1 : (double.word neg R / double.signWeight % 2 == 1) = neg := by
    unfold Format.word
    rw [e1]
    cases neg
    · have : R / 9223372036854775808 % 2 = 0 := by omega
      simp [this]
    · have : (9223372036854775808 + R) / 9223372036854775808 % 2 = 1 := by omega
      rw [if_pos rfl, this]
      rfl
  have h2 : double.word neg R % double.signWeight = R := by
    unfold Format.word
    rw [e1]
    cases neg
    · simp; omega
    · simp; omega
  unfold Format.read
  simp only [h1, h2, e2, e3, e4]
  split
  · rfl
  · rfl

theorem word_val (neg : Bool) (R : Nat) (hR : R < 9218868437227405312) : Fin (double.word neg R) ∧ val (double.word neg R) = if neg then -gval R else gval R := by
  have h := read_word neg R hR
  by_cases hc : R < 4503599627370496
  · rw [if_pos hc] at h
    refine ⟨⟨_, _, _, h⟩, ?_⟩
    rw [val_of h]
    unfold numv gval
    rw [if_pos hc]
  · rw [if_neg hc] at h
    refine ⟨⟨_, _, _, h⟩, ?_⟩
    rw [val_of h]
    unfold numv gval
    rw [if_neg hc]

/-- 2 ^ -52. -/
def eps : Rat := p2 (-52)
theorem eps_pos : 0 < eps := p2_pos _
theorem eps_eq : eps = 1 / 4503599627370496 := by decide +kernel

/-- A bound that is nought or not too small, and not too great. -/
def Sc (B : Rat) : Prop := (B = 0 ∨ p2 (-1000) ≤ B) ∧ B < p2 900

theorem Sc.nonneg {B : Rat} (h : Sc B) : 0 ≤ B := by
  rcases h.1 with h1 | h1
  · rw [h1]; exact Rat.le_refl
  · exact Rat.le_trans (Rat.le_of_lt (p2_pos _)) h1

theorem natmul_nonneg (m : Nat) (p : Int) : 0 ≤ (m : Rat) * p2 p := Rat.mul_nonneg (Rat.natCast_le_natCast.2 (Nat.zero_le m)) (Rat.le_of_lt (p2_pos _))

theorem nat_zero_of {m : Nat} {p : Int} (h : (m : Rat) * p2 p ≤ 0) : m = 0 := by
  rcases Nat.eq_zero_or_pos m with h0 | h0
  · exact h0
  · exfalso
    have h1 : (1 : Rat) ≤ (m : Rat) := Rat.natCast_le_natCast.2 h0
    have h2 := Rat.mul_le_mul_of_nonneg_left h1 (Rat.le_of_lt (p2_pos p))
    have h3 := p2_pos p
    grind

/-- Writing a number: it is finite, and near. -/
theorem write_near (s : Bool) (m : Nat) (p : Int) (v B : Rat) (hv : numv s m p = v) (h1 : -B ≤ v) (h2 : v ≤ B) (hB : Sc B) :
    Fin (double.write (.number s m p)) ∧ v - eps * B ≤ val (double.write (.number s m p)) ∧ val (double.write (.number s m p)) ≤ v + eps * B ∧ (0 ≤ v → 0 ≤ val (double.write (.number s m p))) := by
  have hn : 0 ≤ (m : Rat) * p2 p := natmul_nonneg m p
  have hle : (m : Rat) * p2 p ≤ B := by unfold numv at hv; cases s <;> simp at hv <;> grind
  have h950 : p2 900 < p2 950 := by decide +kernel
  obtain ⟨R, e, hR, _, r1, r2, r3⟩ := round_spec s m p (by have := hB.2; grind)
  have hw : double.write (.number s m p) = double.word s R := e
  obtain ⟨f, g⟩ := word_val s R hR
  rw [hw]
  refine ⟨f, ?_⟩
  rw [g, ← hv]
  have key : gval R - (m : Rat) * p2 p ≤ eps * B ∧ (m : Rat) * p2 p - gval R ≤ eps * B := by
    rcases hB.1 with h0 | h0
    · have hm : m = 0 := nat_zero_of (p := p) (by grind)
      have hR0 := r3 hm
      have z : ((m : Nat) : Rat) = 0 := by rw [hm]; rfl
      have g0 : gval 0 = 0 := by unfold gval; rw [if_pos (by decide)]; grind
      rw [hR0, z, g0, h0]
      constructor <;> grind
    · have a1 : p2 (-1074) ≤ eps * p2 (-1000) := by decide +kernel
      have a2 := Rat.mul_le_mul_of_nonneg_left h0 (Rat.le_of_lt eps_pos)
      have a3 := Rat.mul_le_mul_of_nonneg_left hle (Rat.le_of_lt eps_pos)
      have a4 : p2 (-52) = eps := rfl
      rw [a4] at r1 r2
      constructor <;> grind
  have hg := gval_nonneg R
  have hsg : 0 ≤ v → s = true → gval R = 0 := fun h0 hs => by
    have hm : m = 0 := nat_zero_of (p := p) (by unfold numv at hv; rw [hs] at hv; simp at hv; grind)
    rw [r3 hm]
    unfold gval
    rw [if_pos (by decide)]
    grind
  refine ⟨?_, ?_, ?_⟩
  · unfold numv
    cases s <;> simp <;> grind
  · unfold numv
    cases s <;> simp <;> grind
  · rw [hv]
    intro h0
    cases s
    · simpa using hg
    · rw [hsg h0 rfl]; simp

/-- A number that is a rung's is written as it is. -/
theorem rnd_self (R : Nat) : IsRnd (gval R) R := by
  have h := gval_lt R
  refine ⟨by grind, fun e => by grind, fun Q hQ => ?_, fun Q hQ e => ?_⟩
  · have := gval_lt Q; rw [← hQ] at this; grind
  · have := gval_lt Q; rw [← hQ] at this; grind

theorem write_exact (s : Bool) (m : Nat) (p : Int) (R0 : Nat) (hv : (m : Rat) * p2 p = gval R0) (hlt : gval R0 < p2 950) :
    Fin (double.write (.number s m p)) ∧ val (double.write (.number s m p)) = numv s m p := by
  obtain ⟨R, e, hR, hr, _⟩ := round_spec s m p (by rw [hv]; exact hlt)
  rw [hv] at hr
  have h1 := hr.mono (rnd_self R0) Rat.le_refl
  have h2 := (rnd_self R0).mono hr Rat.le_refl
  have h3 : R = R0 := by omega
  have hw : double.write (.number s m p) = double.word s R := e
  obtain ⟨f, g⟩ := word_val s R hR
  rw [hw]
  refine ⟨f, ?_⟩
  rw [g, h3]
  unfold numv
  rw [hv]

/-- A whole number below 2 ^ 53 is a rung's. -/
theorem nat_rung (k : Nat) (hk : k < 9007199254740992) : ∃ R, gval R = (k : Rat) := by
  by_cases h0 : k = 0
  · refine ⟨0, ?_⟩
    rw [h0]
    unfold gval
    rw [if_pos (by decide)]
    grind
  · have hL1 : 2 ^ k.log2 ≤ k := Nat.log2_self_le h0
    have hL2 : k < 2 ^ (k.log2 + 1) := Nat.lt_log2_self
    have hL : k.log2 ≤ 52 := by
      rcases Nat.lt_or_ge 52 k.log2 with h | h
      · have := Nat.pow_le_pow_right (n := 2) (by decide) h
        omega
      · exact h
    obtain ⟨d, hd⟩ : ∃ d, d + k.log2 = 52 := ⟨52 - k.log2, by omega⟩
    have e52 : 2 ^ d * 2 ^ k.log2 = 4503599627370496 := by rw [← Nat.pow_add, hd]
    have e53 : 2 ^ d * 2 ^ (k.log2 + 1) = 9007199254740992 := by rw [← Nat.pow_add, show d + (k.log2 + 1) = 53 by omega]
    have b1 : 4503599627370496 ≤ k * 2 ^ d := by
      rw [← e52, Nat.mul_comm]
      exact Nat.mul_le_mul_right _ hL1
    have b2 : k * 2 ^ d ≤ 9007199254740992 := by
      rw [← e53, Nat.mul_comm]
      exact Nat.mul_le_mul_left _ (Nat.le_of_lt hL2)
    refine ⟨(1022 + k.log2) * 4503599627370496 + k * 2 ^ d, ?_⟩
    rw [gval_parts _ _ b2 (fun _ => b1), Rat.natCast_mul, ← p2_nat, Rat.mul_assoc, ← p2_add]
    rw [show (d : Int) + (-1074 + ((1022 + k.log2 : Nat) : Int)) = 0 by omega, p2_zero, Rat.mul_one]
end Go.Proofs.Qxb6608579a
