/- Division of doubles, and that it keeps the order. -/
import Derived.Test.Qxb6608579aOps
namespace Go.Proofs.Qxb6608579a
open Ieee

def moreOf (m n : Nat) : Nat := 54 + n.log2 - m.log2
def quoOf (m n : Nat) : Nat := 2 * (m * 2 ^ moreOf m n / n) + (m * 2 ^ moreOf m n % n != 0).toNat
def placeOf (m n : Nat) (i j : Int) : Int := i - j - moreOf m n - 1

theorem quot_eq (s t : Bool) (m n : Nat) (i j : Int) (hn : n ≠ 0) :
    Datum.quotient 54 (.number s m i) (.number t n j) = some (.number (s ^^ t) (quoOf m n) (placeOf m n i j)) := by
  unfold Datum.quotient quoOf placeOf moreOf
  simp only [Nat.shiftLeft_eq]
  rw [if_neg hn]

/-- The digits found, against the exact quotient A = m * 2 ^ more / n. -/
theorem quo_near (m n : Nat) (hn : n ≠ 0) :
    ((quoOf m n : Nat) : Rat) * (n : Rat) ≤ 2 * ((m * 2 ^ moreOf m n : Nat) : Rat) + (n : Rat) ∧ 2 * ((m * 2 ^ moreOf m n : Nat) : Rat) ≤ ((quoOf m n : Nat) : Rat) * (n : Rat) + (n : Rat) ∧
      (m ≠ 0 → 18014398509481984 * (n : Rat) ≤ 2 * ((m * 2 ^ moreOf m n : Nat) : Rat)) := by
  have key : quoOf m n * n ≤ 2 * (m * 2 ^ moreOf m n) + n ∧ 2 * (m * 2 ^ moreOf m n) ≤ quoOf m n * n + n ∧ (m ≠ 0 → 18014398509481984 * n ≤ 2 * (m * 2 ^ moreOf m n)) := by
    refine ⟨?_, ?_, fun hm => ?_⟩
    · unfold quoOf
      generalize m * 2 ^ moreOf m n = D
      have h := Nat.div_add_mod D n
      rw [Nat.mul_comm] at h
      rw [Nat.add_mul, Nat.mul_assoc]
      cases hb : (D % n != 0) <;> simp <;> omega
    · unfold quoOf
      generalize m * 2 ^ moreOf m n = D
      have h := Nat.div_add_mod D n
      have hr := Nat.mod_lt D (Nat.pos_of_ne_zero hn)
      rw [Nat.mul_comm] at h
      rw [Nat.add_mul, Nat.mul_assoc]
      cases hb : (D % n != 0) <;> simp at hb ⊢ <;> omega
    · have h1 : 2 ^ m.log2 ≤ m := Nat.log2_self_le hm
      have h2 : n < 2 ^ (n.log2 + 1) := Nat.lt_log2_self
      have h3 : 2 ^ (54 + n.log2) ≤ m * 2 ^ moreOf m n := by
        refine Nat.le_trans ?_ (Nat.mul_le_mul_right _ h1)
        rw [← Nat.pow_add]
        exact Nat.pow_le_pow_right (by decide) (by unfold moreOf; omega)
      have h4 : 2 ^ (54 + n.log2) = 9007199254740992 * 2 ^ (n.log2 + 1) := by
        rw [show (9007199254740992 : Nat) = 2 ^ 53 from by decide, ← Nat.pow_add]
        congr 1
        omega
      omega
  obtain ⟨k1, k2, k3⟩ := key
  refine ⟨?_, ?_, fun hm => ?_⟩
  · have := Rat.natCast_le_natCast.2 k1
    rw [Rat.natCast_mul, Rat.natCast_add, Rat.natCast_mul 2] at this
    exact this
  · have := Rat.natCast_le_natCast.2 k2
    rw [Rat.natCast_mul 2, Rat.natCast_add, Rat.natCast_mul (quoOf m n)] at this
    exact this
  · have := Rat.natCast_le_natCast.2 (k3 hm)
    rw [Rat.natCast_mul, Rat.natCast_mul 2] at this
    exact this

/-- The exact quotient of two magnitudes, in the place of the digits found. -/
theorem quo_exact (m n : Nat) (i j : Int) (E : Rat) (hE : (m : Rat) * p2 i = E * ((n : Rat) * p2 j)) :
    E * (n : Rat) = 2 * ((m * 2 ^ moreOf m n : Nat) : Rat) * p2 (placeOf m n i j) := by
  have h1 : ((m * 2 ^ moreOf m n : Nat) : Rat) * p2 (placeOf m n i j) = (m : Rat) * p2 (i - j - 1) := by
    rw [p2_mul_nat]
    unfold placeOf
    rw [show ((moreOf m n : Nat) : Int) + (i - j - moreOf m n - 1) = i - j - 1 by omega]
  have h2 : p2 i = 2 * p2 (i - j - 1) * p2 j := by
    rw [← p2_succ, ← p2_add, show i - j - 1 + 1 + j = i by omega]
  have h3 := p2_pos j
  rw [h2] at hE
  have h4 : (E * (n : Rat)) * p2 j = (2 * ((m : Rat) * p2 (i - j - 1))) * p2 j := by grind
  have h5 : E * (n : Rat) = 2 * ((m : Rat) * p2 (i - j - 1)) := by
    have := congrArg (fun z => z * (p2 j)⁻¹) h4
    simp only [Rat.mul_assoc] at this
    rw [Rat.mul_inv_cancel _ (by grind)] at this
    grind
  rw [h5, ← h1]
  grind

theorem mag_div (m n : Nat) (i j : Int) (hn : n ≠ 0) (E : Rat) (hE : (m : Rat) * p2 i = E * ((n : Rat) * p2 j)) :
    ((quoOf m n : Nat) : Rat) * p2 (placeOf m n i j) ≤ E + p2 (placeOf m n i j) ∧ E ≤ ((quoOf m n : Nat) : Rat) * p2 (placeOf m n i j) + p2 (placeOf m n i j) ∧
      (m ≠ 0 → 18014398509481984 * p2 (placeOf m n i j) ≤ E) := by
  obtain ⟨q1, q2, q3⟩ := quo_near m n hn
  have hx := quo_exact m n i j E hE
  have hp := p2_pos (placeOf m n i j)
  have hN : (0 : Rat) < (n : Rat) := Rat.natCast_lt_natCast.2 (Nat.pos_of_ne_zero hn)
  generalize p2 (placeOf m n i j) = P at *
  generalize ((quoOf m n : Nat) : Rat) = Z at *
  generalize ((m * 2 ^ moreOf m n : Nat) : Rat) = D at *
  generalize (n : Rat) = N at *
  have a1 := Rat.mul_le_mul_of_nonneg_left q1 (Rat.le_of_lt hp)
  have a2 := Rat.mul_le_mul_of_nonneg_left q2 (Rat.le_of_lt hp)
  refine ⟨?_, ?_, fun hm => ?_⟩
  · refine Rat.le_of_mul_le_mul_right (c := N) ?_ hN
    grind
  · refine Rat.le_of_mul_le_mul_right (c := N) ?_ hN
    grind
  · have a3 := Rat.mul_le_mul_of_nonneg_left (q3 hm) (Rat.le_of_lt hp)
    refine Rat.le_of_mul_le_mul_right (c := N) ?_ hN
    grind

/-- '/' -/
theorem div_ok {x y : Nat} (hx : Fin x) (hy : Fin y) (hy0 : val y ≠ 0) :
    ∃ r, double.div x y = some r ∧ ∀ B E, Sc (2 * B) → val x = E * val y → -B ≤ E → E ≤ B → Fin r ∧ E - 3 * (eps * B) ≤ val r ∧ val r ≤ E + 3 * (eps * B) ∧ (0 ≤ E → 0 ≤ val r) := by
  obtain ⟨s, m, i, e1⟩ := hx
  obtain ⟨t, n, j, e2⟩ := hy
  have hn : n ≠ 0 := by
    intro h
    apply hy0
    rw [val_of e2, h]
    unfold numv
    have : ((0 : Nat) : Rat) = 0 := rfl
    rw [this]
    cases t <;> simp
  refine ⟨double.write (.number (s ^^ t) (quoOf m n) (placeOf m n i j)), ?_, fun B E hB hE l u => ?_⟩
  · unfold Format.div; rw [e1, e2]
    show (Datum.quotient 54 (.number s m i) (.number t n j)).map double.write = _
    rw [quot_eq s t m n i j hn]; rfl
  · rw [val_of e1, val_of e2] at hE
    obtain ⟨F, hF⟩ : ∃ F : Rat, F = if s ^^ t then -E else E := ⟨_, rfl⟩
    have hF2 : (m : Rat) * p2 i = F * ((n : Rat) * p2 j) := by
      rw [hF]
      unfold numv at hE
      cases s <;> cases t <;> simp at hE ⊢ <;> grind
    obtain ⟨d1, d2, d3⟩ := mag_div m n i j hn F hF2
    have hp := p2_pos (placeOf m n i j)
    have hFB : F ≤ B := by rw [hF]; split <;> grind
    have hB0 : 0 ≤ B := by have := hB.nonneg; grind
    have hsmall : p2 (placeOf m n i j) ≤ eps * B ∨ m = 0 := by
      by_cases hm : m = 0
      · exact .inr hm
      · have := d3 hm
        refine .inl ?_
        rw [eps_eq]
        grind
    have hz : ((quoOf m n : Nat) : Rat) * p2 (placeOf m n i j) - F ≤ eps * B ∧ F - ((quoOf m n : Nat) : Rat) * p2 (placeOf m n i j) ≤ eps * B := by
      rcases hsmall with h | h
      · constructor <;> grind
      · have q0 : quoOf m n = 0 := by rw [h]; unfold quoOf; simp
        have m0 : ((m : Nat) : Rat) = 0 := by rw [h]; rfl
        have F0 : F = 0 := by
          have hN : (0 : Rat) < (n : Rat) * p2 j := by
            have hN : (0 : Rat) < (n : Rat) := Rat.natCast_lt_natCast.2 (Nat.pos_of_ne_zero hn)
            exact Rat.mul_pos hN (p2_pos j)
          rw [m0] at hF2
          generalize (n : Rat) * p2 j = Y at *
          have h1 : F * Y = 0 := by grind
          rcases Rat.mul_eq_zero.1 h1 with h2 | h2
          · exact h2
          · grind
        have z0 : ((quoOf m n : Nat) : Rat) = 0 := by rw [q0]; rfl
        have := Rat.mul_nonneg (Rat.le_of_lt eps_pos) hB0
        rw [z0, F0]
        constructor <;> grind
    have hv : numv (s ^^ t) (quoOf m n) (placeOf m n i j) - E ≤ eps * B ∧ E - numv (s ^^ t) (quoOf m n) (placeOf m n i j) ≤ eps * B := by
      unfold numv
      cases hst : (s ^^ t) <;> simp [hst] at hF ⊢ <;> constructor <;> grind
    have he : eps * B ≤ B := by
      have := Rat.mul_le_mul_of_nonneg_left (show eps ≤ 1 by decide +kernel) hB0
      grind
    obtain ⟨f, g1, g2, g3⟩ := write_near (s ^^ t) (quoOf m n) (placeOf m n i j) _ (2 * B) rfl (by grind) (by grind) hB
    refine ⟨f, by grind, by grind, fun h0 => g3 ?_⟩
    unfold numv
    have hN : (0 : Rat) < (n : Rat) * p2 j := Rat.mul_pos (Rat.natCast_lt_natCast.2 (Nat.pos_of_ne_zero hn)) (p2_pos j)
    have hq0 := natmul_nonneg (quoOf m n) (placeOf m n i j)
    cases hst : (s ^^ t)
    · simpa using hq0
    · rw [hst] at hF
      simp at hF
      have hm0 := natmul_nonneg m i
      have hE0 : E = 0 := by
        have h1 : 0 ≤ F := by
          rcases (show 0 ≤ F ∨ F < 0 by grind) with h | h
          · exact h
          · exfalso
            have := Rat.mul_lt_mul_of_pos_right h hN
            grind
        grind
      have hm' : m = 0 := by
        apply nat_zero_of (p := i)
        rw [hF2, hF, hE0]
        grind
      have q0 : quoOf m n = 0 := by rw [hm']; unfold quoOf; simp
      have z0 : ((quoOf m n : Nat) : Rat) = 0 := by rw [q0]; rfl
      simp only [if_true]
      rw [z0]
      grind
end Go.Proofs.Qxb6608579a
