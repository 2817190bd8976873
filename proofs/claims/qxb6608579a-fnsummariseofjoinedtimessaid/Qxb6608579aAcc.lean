/- Sums of doubles, within rounding. -/
import Derived.Test.Qxb6608579aMs
namespace Go.Proofs.Qxb6608579a
open Ieee

def fadd (x y : Nat) : Nat := (double.add x y).getD 0
def fsub (x y : Nat) : Nat := (double.sub x y).getD 0
def fmul (x y : Nat) : Nat := (double.mul x y).getD 0
def fdiv (x y : Nat) : Nat := (double.div x y).getD 0
def fsqrt (x : Nat) : Nat := (double.sqrt x).getD 0

/-- Near: the word is finite and its number lies within d of v. -/
structure Near (x : Nat) (v d : Rat) : Prop where
  fin : Fin x
  lo : v - d ≤ val x
  hi : val x ≤ v + d

theorem add_near {x y : Nat} (hx : Fin x) (hy : Fin y) :
    double.add x y = some (fadd x y) ∧ ∀ B, Sc B → -B ≤ val x + val y → val x + val y ≤ B → Near (fadd x y) (val x + val y) (eps * B) ∧ (0 ≤ val x + val y → 0 ≤ val (fadd x y)) := by
  obtain ⟨r, hr, h⟩ := add_ok hx hy
  have e : fadd x y = r := by unfold fadd; rw [hr]; rfl
  rw [e]
  exact ⟨hr, fun B a b c => by obtain ⟨k1, k2, k3, k4⟩ := h B a b c; exact ⟨⟨k1, k2, k3⟩, k4⟩⟩

theorem sub_near {x y : Nat} (hx : Fin x) (hy : Fin y) :
    double.sub x y = some (fsub x y) ∧ ∀ B, Sc B → -B ≤ val x - val y → val x - val y ≤ B → Near (fsub x y) (val x - val y) (eps * B) ∧ (0 ≤ val x - val y → 0 ≤ val (fsub x y)) := by
  obtain ⟨r, hr, h⟩ := sub_ok hx hy
  have e : fsub x y = r := by unfold fsub; rw [hr]; rfl
  rw [e]
  exact ⟨hr, fun B a b c => by obtain ⟨k1, k2, k3, k4⟩ := h B a b c; exact ⟨⟨k1, k2, k3⟩, k4⟩⟩

theorem mul_near {x y : Nat} (hx : Fin x) (hy : Fin y) :
    double.mul x y = some (fmul x y) ∧ (∀ B, Sc B → -B ≤ val x * val y → val x * val y ≤ B → Near (fmul x y) (val x * val y) (eps * B) ∧ (0 ≤ val x * val y → 0 ≤ val (fmul x y))) ∧
      (∀ k : Nat, k < 9007199254740992 → val x * val y = (k : Rat) → Fin (fmul x y) ∧ val (fmul x y) = (k : Rat)) := by
  obtain ⟨r, hr, h, h2⟩ := mul_ok hx hy
  have e : fmul x y = r := by unfold fmul; rw [hr]; rfl
  rw [e]
  exact ⟨hr, fun B a b c => by obtain ⟨k1, k2, k3, k4⟩ := h B a b c; exact ⟨⟨k1, k2, k3⟩, k4⟩, h2⟩

theorem div_near {x y : Nat} (hx : Fin x) (hy : Fin y) (hy0 : val y ≠ 0) :
    double.div x y = some (fdiv x y) ∧ ∀ B E, Sc (2 * B) → val x = E * val y → -B ≤ E → E ≤ B → Near (fdiv x y) E (3 * (eps * B)) ∧ (0 ≤ E → 0 ≤ val (fdiv x y)) := by
  obtain ⟨r, hr, h⟩ := div_ok hx hy hy0
  have e : fdiv x y = r := by unfold fdiv; rw [hr]; rfl
  rw [e]
  exact ⟨hr, fun B E a b c d => by obtain ⟨k1, k2, k3, k4⟩ := h B E a b c d; exact ⟨⟨k1, k2, k3⟩, k4⟩⟩

theorem sqrt_near {x : Nat} (hx : Fin x) (h0 : 0 ≤ val x) (h1 : val x < p2 900) :
    double.sqrt x = some (fsqrt x) ∧ Fin (fsqrt x) ∧ 0 ≤ val (fsqrt x) ∧ val (fsqrt x) * val (fsqrt x) ≤ val x + 5 * (eps * val x) ∧ val x ≤ val (fsqrt x) * val (fsqrt x) + 5 * (eps * val x) := by
  obtain ⟨r, hr, h⟩ := sqrt_ok hx h0 h1
  have e : fsqrt x = r := by unfold fsqrt; rw [hr]; rfl
  rw [e]
  exact ⟨hr, h⟩

/-- A bound for the times: nought, or not too small; and not too great. -/
def MOk (M : Rat) : Prop := (M = 0 ∨ p2 (-30) ≤ M) ∧ M ≤ p2 50

theorem MOk.nonneg {M : Rat} (h : MOk M) : 0 ≤ M := by
  rcases h.1 with h1 | h1
  · rw [h1]; exact Rat.le_refl
  · exact Rat.le_trans (Rat.le_of_lt (p2_pos _)) h1

theorem sc_M {M c : Rat} (h : MOk M) (h1 : 1 ≤ c) (h2 : c ≤ p2 100) : Sc (c * M) := by
  have hM := h.nonneg
  refine sc_of _ ?_ ?_
  · rcases h.1 with h3 | h3
    · left; rw [h3]; grind
    · right
      have a1 := Rat.mul_le_mul_of_nonneg_left h1 hM
      have a2 : p2 (-900) ≤ p2 (-30) := p2_mono (by decide)
      grind
  · have a1 := Rat.mul_le_mul_of_nonneg_left h2 hM
    have a2 := Rat.mul_le_mul_of_nonneg_left h.2 (Rat.le_of_lt (p2_pos 100))
    have a3 : p2 100 * p2 50 ≤ p2 800 := by decide +kernel
    grind

theorem sc_MM {M c : Rat} (h : MOk M) (h1 : 1 ≤ c) (h2 : c ≤ p2 100) : Sc (c * (M * M)) := by
  have hM := h.nonneg
  have hMM := Rat.mul_nonneg hM hM
  refine sc_of _ ?_ ?_
  · rcases h.1 with h3 | h3
    · left; rw [h3]; grind
    · right
      have a1 := Rat.mul_le_mul_of_nonneg_left h1 hMM
      have a2 := Rat.mul_le_mul_of_nonneg_left h3 hM
      have a3 := Rat.mul_le_mul_of_nonneg_left h3 (Rat.le_of_lt (p2_pos (-30)))
      have a4 : p2 (-900) ≤ p2 (-30) * p2 (-30) := by decide +kernel
      grind
  · have a1 := Rat.mul_le_mul_of_nonneg_left h2 hMM
    have a2 := Rat.mul_le_mul_of_nonneg_left h.2 hM
    have a3 := Rat.mul_le_mul_of_nonneg_left h.2 (Rat.le_of_lt (p2_pos 50))
    have a5 := Rat.mul_le_mul_of_nonneg_left (show M * M ≤ p2 50 * p2 50 by grind) (Rat.le_of_lt (p2_pos 100))
    have a4 : p2 100 * (p2 50 * p2 50) ≤ p2 800 := by decide +kernel
    grind

/-! ### Sums -/
def accTo (g : Nat → Nat) : Nat → Nat
  | 0 => 0
  | k + 1 => fadd (accTo g k) (g k)

def sumR (h : Nat → Rat) : Nat → Rat
  | 0 => 0
  | k + 1 => sumR h k + h k

theorem fin_zero : Fin 0 := ⟨false, 0, -1074, by decide +kernel⟩
theorem val_zero : val 0 = 0 := by decide +kernel

theorem sumR_le (h : Nat → Rat) (n : Nat) (B : Rat) (hb : ∀ i, i < n → -B ≤ h i ∧ h i ≤ B) : ∀ k, k ≤ n → -((k : Rat) * B) ≤ sumR h k ∧ sumR h k ≤ (k : Rat) * B
  | 0, _ => by
    have : ((0 : Nat) : Rat) = 0 := rfl
    rw [this]
    unfold sumR
    constructor <;> grind
  | k + 1, hk => by
    obtain ⟨a1, a2⟩ := sumR_le h n B hb k (by omega)
    obtain ⟨b1, b2⟩ := hb k (by omega)
    have : ((k + 1 : Nat) : Rat) = (k : Rat) + 1 := by rw [Rat.natCast_add]; rfl
    rw [this]
    unfold sumR
    constructor <;> grind

/-- A sum of at most 2 ^ 20 doubles, each at most B in size. -/
theorem acc_near (g : Nat → Nat) (n : Nat) (B : Rat) (hn : n ≤ 1048576) (hB0 : 0 ≤ B) (hB : 1 ≤ n → Sc (2 * ((n : Rat) * B))) (hg : ∀ i, i < n → Fin (g i) ∧ -B ≤ val (g i) ∧ val (g i) ≤ B) :
    ∀ k, k ≤ n → Near (accTo g k) (sumR (fun i => val (g i)) k) ((k : Rat) * (2 * (eps * ((n : Rat) * B)))) ∧ ((∀ i, i < n → 0 ≤ val (g i)) → 0 ≤ val (accTo g k))
  | 0, _ => by
    have z : ((0 : Nat) : Rat) = 0 := rfl
    refine ⟨⟨fin_zero, ?_, ?_⟩, fun _ => ?_⟩
    · unfold accTo sumR; rw [val_zero, z]; grind
    · unfold accTo sumR; rw [val_zero, z]; grind
    · unfold accTo; rw [val_zero]; exact Rat.le_refl
  | k + 1, hk => by
    obtain ⟨⟨f, lo, hi⟩, sg⟩ := acc_near g n B hn hB0 hB hg k (by omega)
    obtain ⟨gf, g1, g2⟩ := hg k (by omega)
    obtain ⟨s1, s2⟩ := sumR_le (fun i => val (g i)) n B (fun i hi => ⟨(hg i hi).2.1, (hg i hi).2.2⟩) (k + 1) hk
    obtain ⟨_, hadd⟩ := add_near f gf
    have c1 : ((k + 1 : Nat) : Rat) = (k : Rat) + 1 := by rw [Rat.natCast_add]; rfl
    have ss : sumR (fun i => val (g i)) (k + 1) = sumR (fun i => val (g i)) k + val (g k) := rfl
    rw [ss, c1] at s1 s2
    have hnB : 0 ≤ (n : Rat) * B := Rat.mul_nonneg (Rat.natCast_le_natCast.2 (Nat.zero_le n)) hB0
    have kn : (k : Rat) + 1 ≤ (n : Rat) := by rw [← c1]; exact Rat.natCast_le_natCast.2 hk
    have k0 : (0 : Rat) ≤ (k : Rat) := Rat.natCast_le_natCast.2 (Nat.zero_le k)
    have kb : (k : Rat) ≤ 1048576 := Rat.natCast_le_natCast.2 (show k ≤ 1048576 by omega)
    have t1 := Rat.mul_le_mul_of_nonneg_left kn hB0
    have t2 : (k : Rat) * (2 * (eps * ((n : Rat) * B))) ≤ (n : Rat) * B := by
      have e1 : 0 ≤ eps * ((n : Rat) * B) := Rat.mul_nonneg (Rat.le_of_lt eps_pos) hnB
      have e2 := Rat.mul_le_mul_of_nonneg_left kb e1
      have e3 := Rat.mul_le_mul_of_nonneg_left (show 2 * 1048576 * eps ≤ 1 by decide +kernel) hnB
      grind
    obtain ⟨⟨r1, r2, r3⟩, r4⟩ := hadd (2 * ((n : Rat) * B)) (hB (by omega)) (by grind) (by grind)
    refine ⟨⟨r1, ?_, ?_⟩, fun hp => r4 ?_⟩
    · show _ ≤ val (fadd (accTo g k) (g k))
      rw [ss, c1]
      grind
    · show val (fadd (accTo g k) (g k)) ≤ _
      rw [ss, c1]
      grind
    · have a1 := sg hp
      have a2 := hp k (by omega)
      grind

theorem acc_some (g : Nat → Nat) (k : Nat) (h1 : Fin (accTo g k)) (h2 : Fin (g k)) : double.add (accTo g k) (g k) = some (accTo g (k + 1)) := (add_near h1 h2).1
end Go.Proofs.Qxb6608579a
