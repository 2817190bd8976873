/- The whole numbers of the mean: quotients and rests. -/
import Derived.Test.Qxb6608579aPairs
namespace Go.Proofs.Qxb6608579a
open Ieee

theorem tdiv_pos (t : Int) (n : Nat) (h : 1 ≤ n) (h0 : 0 ≤ t) : (n : Int) * t.tdiv n + t.tmod n = t ∧ 0 ≤ (n : Int) * t.tdiv n ∧ (n : Int) * t.tdiv n ≤ t ∧ 0 ≤ t.tmod n ∧ t.tmod n ≤ t ∧ t.tmod n < n := by
  have e := Int.mul_tdiv_add_tmod t (n : Int)
  have m0 := Int.tmod_nonneg (n : Int) h0
  have m1 := Int.tmod_lt_of_pos t (show (0 : Int) < (n : Int) by omega)
  have d0 : 0 ≤ t.tdiv n := Int.tdiv_nonneg h0 (by omega)
  have d1 : 0 ≤ (n : Int) * t.tdiv n := Int.mul_nonneg (by omega) d0
  generalize (n : Int) * t.tdiv n = D at *
  exact ⟨e, d1, by omega, m0, by omega, m1⟩

theorem tdiv_all (t : Int) (n : Nat) (h : 1 ≤ n) : (n : Int) * t.tdiv n + t.tmod n = t ∧ ((n : Int) * t.tdiv n).natAbs ≤ t.natAbs ∧ (t.tmod n).natAbs ≤ t.natAbs ∧ -(n : Int) < t.tmod n ∧ t.tmod n < n ∧
    (0 ≤ t → 0 ≤ (n : Int) * t.tdiv n ∧ (n : Int) * t.tdiv n ≤ t) ∧ (t ≤ 0 → t ≤ (n : Int) * t.tdiv n ∧ (n : Int) * t.tdiv n ≤ 0) := by
  rcases Int.le_total 0 t with h0 | h0
  · obtain ⟨e, a1, a2, a3, a4, a5⟩ := tdiv_pos t n h h0
    generalize (n : Int) * t.tdiv n = D at *
    generalize t.tmod n = m at *
    exact ⟨e, by omega, by omega, by omega, by omega, by omega, by omega⟩
  · obtain ⟨e, a1, a2, a3, a4, a5⟩ := tdiv_pos (-t) n h (by omega)
    rw [Int.neg_tdiv, Int.mul_neg] at a1 a2
    rw [Int.neg_tmod] at a3 a4 a5
    have e := Int.mul_tdiv_add_tmod t (n : Int)
    generalize (n : Int) * t.tdiv n = D at *
    generalize t.tmod n = m at *
    exact ⟨e, by omega, by omega, by omega, by omega, by omega, by omega⟩

def quoI (ts : Nat → Int) (n k : Nat) : Int := sumI (fun i => (ts i).tdiv n) k
def remI (ts : Nat → Int) (n k : Nat) : Int := sumI (fun i => (ts i).tmod n) k

theorem sums (ts : Nat → Int) (n : Nat) (h : 1 ≤ n) : ∀ k, sumI ts k = (n : Int) * quoI ts n k + remI ts n k
  | 0 => by show (0 : Int) = (n : Int) * 0 + 0; omega
  | k + 1 => by
    show sumI ts k + ts k = (n : Int) * (quoI ts n k + (ts k).tdiv n) + (remI ts n k + (ts k).tmod n)
    rw [sums ts n h k, Int.mul_add]
    have := (tdiv_all (ts k) n h).1
    omega

/-- No sum of quotients runs over. -/
theorem quo_fits (ts : Nat → Int) (n : Nat) (h : 1 ≤ n) (ht : ∀ i, i < n → Fits (ts i)) (k : Nat) (hk : k ≤ n) : Fits (quoI ts n k) := by
  have key : ∀ k, k ≤ n → -((k : Int) * 9223372036854775808) ≤ (n : Int) * quoI ts n k ∧ (n : Int) * quoI ts n k ≤ (k : Int) * 9223372036854775807 := by
    intro k
    induction k with
    | zero => intro _; show -((0 : Int) * _) ≤ (n : Int) * 0 ∧ (n : Int) * 0 ≤ 0 * _; omega
    | succ k ih =>
      intro hk
      obtain ⟨i1, i2⟩ := ih (by omega)
      obtain ⟨_, _, _, _, _, b1, b2⟩ := tdiv_all (ts k) n h
      have f := ht k (by omega)
      unfold Fits at f
      show _ ≤ (n : Int) * (quoI ts n k + (ts k).tdiv n) ∧ (n : Int) * (quoI ts n k + (ts k).tdiv n) ≤ _
      rw [Int.mul_add]
      generalize (n : Int) * (ts k).tdiv n = D at *
      generalize (n : Int) * quoI ts n k = Q at *
      omega
  obtain ⟨a, b⟩ := key k hk
  have hn : (0 : Int) < (n : Int) := by omega
  constructor
  · refine Int.le_of_mul_le_mul_left ?_ hn
    generalize (n : Int) * quoI ts n k = Q at *
    omega
  · refine Int.le_of_mul_le_mul_left ?_ hn
    generalize (n : Int) * quoI ts n k = Q at *
    omega

theorem one_fits (n : Nat) (h : 1 ≤ n) (t : Int) (ht : Fits t) : Fits (t.tdiv n) := by
  obtain ⟨_, _, _, _, _, b1, b2⟩ := tdiv_all t n h
  unfold Fits at ht
  have hn : (1 : Int) ≤ (n : Int) := by omega
  rcases Int.le_total 0 t with h0 | h0
  · have d0 : 0 ≤ t.tdiv n := Int.tdiv_nonneg h0 (by omega)
    have := Int.mul_le_mul_of_nonneg_right hn d0
    obtain ⟨_, c2⟩ := b1 h0
    generalize (n : Int) * t.tdiv n = D at *
    unfold Fits
    omega
  · have d0 : 0 ≤ (-t).tdiv n := Int.tdiv_nonneg (by omega) (by omega)
    rw [Int.neg_tdiv] at d0
    have := Int.mul_le_mul_of_nonneg_right hn d0
    simp only [Int.mul_neg, Int.one_mul] at this
    obtain ⟨c1, _⟩ := b2 h0
    generalize (n : Int) * t.tdiv n = D at *
    unfold Fits
    omega

theorem rem_small (ts : Nat → Int) (n : Nat) (h : 1 ≤ n) (hn4 : n ≤ 4096) : ∀ k, k ≤ n → -((k : Int) * 4096) ≤ remI ts n k ∧ remI ts n k ≤ (k : Int) * 4096
  | 0, _ => by show -((0 : Int) * 4096) ≤ 0 ∧ 0 ≤ (0 : Int) * 4096; omega
  | k + 1, hk => by
    obtain ⟨i1, i2⟩ := rem_small ts n h hn4 k (by omega)
    obtain ⟨_, _, _, m1, m2, _, _⟩ := tdiv_all (ts k) n h
    show _ ≤ remI ts n k + (ts k).tmod n ∧ remI ts n k + (ts k).tmod n ≤ _
    generalize (ts k).tmod n = D at *
    generalize remI ts n k = Q at *
    omega

theorem abs_bound (z : Int) (B : Rat) (h : ((z.natAbs : Nat) : Rat) ≤ B) : -B ≤ (z : Rat) ∧ (z : Rat) ≤ B := by
  obtain ⟨a, ha, l, u, hs, ha2⟩ := abs_int z
  rw [← ha2] at h
  constructor <;> grind

theorem natAbs_mono {a b : Nat} (h : a ≤ b) : (a : Rat) ≤ (b : Rat) := Rat.natCast_le_natCast.2 h

/-- The quotients' sum and the rests' sum, against the greatest magnitude. -/
theorem quo_size (ts : Nat → Int) (n : Nat) (h : 1 ≤ n) (M : Rat) (hb : ∀ i, i < n → (((ts i).natAbs : Nat) : Rat) ≤ 1100000 * M) :
    (-(1100000 * M) ≤ ((quoI ts n n : Int) : Rat) ∧ ((quoI ts n n : Int) : Rat) ≤ 1100000 * M) ∧
    (-((n : Rat) * (1100000 * M)) ≤ ((remI ts n n : Int) : Rat) ∧ ((remI ts n n : Int) : Rat) ≤ (n : Rat) * (1100000 * M)) := by
  have hN : (1 : Rat) ≤ (n : Rat) := natAbs_mono h
  constructor
  · have e : ∀ k, (n : Rat) * ((quoI ts n k : Int) : Rat) = sumR (fun i => (((n : Int) * (ts i).tdiv n : Int) : Rat)) k := by
      intro k
      induction k with
      | zero => show (n : Rat) * ((0 : Int) : Rat) = 0; rw [Rat.intCast_zero]; grind
      | succ k ih =>
        show (n : Rat) * ((quoI ts n k + (ts k).tdiv n : Int) : Rat) = sumR _ k + (((n : Int) * (ts k).tdiv n : Int) : Rat)
        rw [← ih, Rat.intCast_add, Rat.intCast_mul, Rat.intCast_natCast]
        grind
    obtain ⟨s1, s2⟩ := sumR_le (fun i => (((n : Int) * (ts i).tdiv n : Int) : Rat)) n (1100000 * M) (fun i hi =>
      abs_bound _ _ (Rat.le_trans (natAbs_mono (tdiv_all (ts i) n h).2.1) (hb i hi))) n (Nat.le_refl _)
    rw [← e n] at s1 s2
    constructor
    · exact le_cancel (N := (n : Rat)) (by grind) (by grind)
    · exact le_cancel (N := (n : Rat)) (by grind) (by grind)
  · unfold remI
    rw [sumI_cast]
    exact sumR_le _ n (1100000 * M) (fun i hi => abs_bound _ _ (Rat.le_trans (natAbs_mono (tdiv_all (ts i) n h).2.2.1) (hb i hi))) n (Nat.le_refl _)
end Go.Proofs.Qxb6608579a
