/- The square root of a double. -/
import Derived.Test.Qxb6608579aDiv
namespace Go.Proofs.Qxb6608579a
open Ieee

theorem rootFrom_spec (n : Nat) : ∀ (todo root : Nat), root * root ≤ n → n < (root + 2 ^ todo) * (root + 2 ^ todo) →
    Datum.rootFrom n todo root * Datum.rootFrom n todo root ≤ n ∧ n < (Datum.rootFrom n todo root + 1) * (Datum.rootFrom n todo root + 1)
  | 0, root, h1, h2 => by
    unfold Datum.rootFrom
    exact ⟨h1, by simpa using h2⟩
  | todo + 1, root, h1, h2 => by
    unfold Datum.rootFrom
    simp only [Nat.one_shiftLeft]
    by_cases h : (root + 2 ^ todo) * (root + 2 ^ todo) ≤ n
    · rw [if_pos h]
      refine rootFrom_spec n todo _ h ?_
      rw [Nat.add_assoc, show 2 ^ todo + 2 ^ todo = 2 ^ (todo + 1) by rw [Nat.pow_succ]; omega]
      exact h2
    · rw [if_neg h]
      exact rootFrom_spec n todo root h1 (by omega)

theorem read_place {x : Nat} {s : Bool} {m : Nat} {p : Int} (h : double.read x = .number s m p) : -1074 ≤ p := by
  have e2 : double.leastPlace = -1074 := by decide
  unfold Format.read at h
  simp only [e2] at h
  split at h
  · injection h with _ _ h3
    omega
  · split at h
    · injection h with _ _ h3
      omega
    · split at h <;> cases h

theorem write_nonneg (m : Nat) (p : Int) (h : (m : Rat) * p2 p < p2 950) : 0 ≤ val (double.write (.number false m p)) := by
  obtain ⟨R, e, hR, _⟩ := round_spec false m p h
  have hw : double.write (.number false m p) = double.word false R := e
  rw [hw, (word_val false R hR).2]
  exact gval_nonneg R

theorem root_eq (m : Nat) (i : Int) (hm : m ≠ 0) : ∃ (w k : Nat) (c : Int), Datum.root 54 (.number false m i) = some (.number false (2 * w + (w * w != m * 2 ^ k).toNat) (c - 1)) ∧
    w * w ≤ m * 2 ^ k ∧ m * 2 ^ k < (w + 1) * (w + 1) ∧ 18014398509481984 ≤ w ∧ i - k = c + c ∧ k ≤ 109 := by
  obtain ⟨k, hk⟩ : ∃ k, k = (2 * 54 - m.log2) + ((i - ((2 * 54 - m.log2 : Nat) : Int)) % 2).toNat := ⟨_, rfl⟩
  obtain ⟨w, hw⟩ : ∃ w, w = Datum.rootFrom (m * 2 ^ k) ((m * 2 ^ k).log2 / 2 + 1) 0 := ⟨_, rfl⟩
  have hm2 : m * 2 ^ k ≠ 0 := Nat.ne_of_gt (Nat.mul_pos (Nat.pos_of_ne_zero hm) (Nat.two_pow_pos k))
  have hspec := rootFrom_spec (m * 2 ^ k) ((m * 2 ^ k).log2 / 2 + 1) 0 (by omega) (by
    rw [Nat.zero_add, ← Nat.pow_add]
    refine Nat.lt_of_lt_of_le (Nat.lt_log2_self (n := m * 2 ^ k)) (Nat.pow_le_pow_right (by decide) (by omega)))
  rw [← hw] at hspec
  refine ⟨w, k, (i - k) / 2, ?_, hspec.1, hspec.2, ?_, by omega, by omega⟩
  · unfold Datum.root
    simp only [Nat.shiftLeft_eq]
    rw [if_neg hm, ← hk, ← hw]
    rfl
  · have h1 : 2 ^ m.log2 ≤ m := Nat.log2_self_le hm
    have h2 : 2 ^ 108 ≤ m * 2 ^ k := by
      refine Nat.le_trans ?_ (Nat.mul_le_mul_right _ h1)
      rw [← Nat.pow_add]
      exact Nat.pow_le_pow_right (by decide) (by omega)
    rcases Nat.lt_or_ge w 18014398509481984 with h | h
    · exfalso
      have h3 : (w + 1) * (w + 1) ≤ 18014398509481984 * 18014398509481984 := Nat.mul_le_mul h h
      have h4 : (2 : Nat) ^ 108 = 18014398509481984 * 18014398509481984 := by decide
      have := hspec.2
      omega
    · exact h

/-- The root found, squared, against the number. -/
theorem root_near (W N P Z v : Rat) (hP : 0 < P) (hW : 18014398509481984 ≤ W) (h1 : W * W ≤ N) (h2 : N ≤ (W + 1) * (W + 1)) (hv : v = N * (P * P)) (hz1 : W * P ≤ Z) (hz2 : 2 * Z ≤ (2 * W + 1) * P) :
    Z * Z ≤ v + eps * v ∧ v ≤ Z * Z + eps * v ∧ 0 < Z := by
  have hPP : 0 < P * P := Rat.mul_pos hP hP
  have hWP : 0 < W * P := Rat.mul_pos (by grind) hP
  have a1 := Rat.mul_le_mul_of_nonneg_left h1 (Rat.le_of_lt hPP)
  have a2 := Rat.mul_le_mul_of_nonneg_left h2 (Rat.le_of_lt hPP)
  -- W P P is small against v
  have b1 : 18014398509481984 * (W * (P * P)) ≤ v := by
    have c1 := Rat.mul_le_mul_of_nonneg_left hW (show 0 ≤ W * (P * P) from Rat.mul_nonneg (by grind) (Rat.le_of_lt hPP))
    grind
  have b2 : P * P ≤ W * (P * P) := by
    have c1 := Rat.mul_le_mul_of_nonneg_left (show 1 ≤ W by grind) (Rat.le_of_lt hPP)
    grind
  have b3 : 4 * (W * (P * P)) ≤ eps * v := by rw [eps_eq]; grind
  have z0 : 0 < Z := by grind
  have z1 : (W * P) * (W * P) ≤ Z * Z := by
    have c1 := Rat.mul_le_mul_of_nonneg_left hz1 (Rat.le_of_lt hWP)
    have c2 := Rat.mul_le_mul_of_nonneg_left hz1 (Rat.le_of_lt z0)
    grind
  have z2 : 4 * (Z * Z) ≤ ((2 * W + 1) * P) * ((2 * W + 1) * P) := by
    have c1 := Rat.mul_le_mul_of_nonneg_left hz2 (show 0 ≤ 2 * Z by grind)
    have c2 := Rat.mul_le_mul_of_nonneg_left hz2 (show 0 ≤ (2 * W + 1) * P by grind)
    grind
  refine ⟨?_, ?_, z0⟩
  · grind
  · grind

/-- A root that is near, squared. -/
theorem sq_near (ρ ζ v : Rat) (hn : 0 ≤ ρ) (r3 : 0 < ζ) (g1 : ζ - eps * ζ ≤ ρ) (g2 : ρ ≤ ζ + eps * ζ) (r1 : ζ * ζ ≤ v + eps * v) (r2 : v ≤ ζ * ζ + eps * v) (h0 : 0 ≤ v) :
    ρ * ρ ≤ v + 5 * (eps * v) ∧ v ≤ ρ * ρ + 5 * (eps * v) := by
  have hz0 : 0 ≤ eps * ζ := Rat.mul_nonneg (Rat.le_of_lt eps_pos) (Rat.le_of_lt r3)
  have e1' : eps ≤ 1 / 4 := by decide +kernel
  have hzz : 0 ≤ ζ * ζ := Rat.mul_nonneg (Rat.le_of_lt r3) (Rat.le_of_lt r3)
  have ez : eps * ζ ≤ ζ * (1 / 4) := by
    have := Rat.mul_le_mul_of_nonneg_left e1' (Rat.le_of_lt r3)
    grind
  have ezz : 0 ≤ eps * (ζ * ζ) := Rat.mul_nonneg (Rat.le_of_lt eps_pos) hzz
  have u1 : ρ * ρ ≤ ζ * ζ + 3 * (eps * (ζ * ζ)) := by
    have c1 := Rat.mul_le_mul_of_nonneg_left g2 hn
    have c2 := Rat.mul_le_mul_of_nonneg_left g2 (show 0 ≤ ζ + eps * ζ by grind)
    have c3 := Rat.mul_le_mul_of_nonneg_left ez hz0
    clear ez g1 g2 r1 r2 e1'
    grind
  have u2 : ζ * ζ ≤ ρ * ρ + 3 * (eps * (ζ * ζ)) := by
    have c1 := Rat.mul_le_mul_of_nonneg_left g1 hn
    have c2 := Rat.mul_le_mul_of_nonneg_left g1 (show 0 ≤ ζ - eps * ζ by grind)
    have c3 := Rat.mul_nonneg hz0 hz0
    clear ez g1 g2 r1 r2 e1'
    grind
  have u3 := Rat.mul_le_mul_of_nonneg_left r1 (Rat.le_of_lt eps_pos)
  have u4 : 3 * (eps * (eps * v)) ≤ eps * v := by
    have c1 := Rat.mul_le_mul_of_nonneg_left e1' (show 0 ≤ eps * v from Rat.mul_nonneg (Rat.le_of_lt eps_pos) h0)
    have c2 := Rat.mul_nonneg (Rat.le_of_lt eps_pos) h0
    grind
  clear ez ezz g1 g2 e1' hz0
  constructor <;> grind

/-- math.Sqrt -/
theorem sqrt_ok {x : Nat} (hx : Fin x) (h0 : 0 ≤ val x) (h1 : val x < p2 900) :
    ∃ r, double.sqrt x = some r ∧ Fin r ∧ 0 ≤ val r ∧ val r * val r ≤ val x + 5 * (eps * val x) ∧ val x ≤ val r * val r + 5 * (eps * val x) := by
  obtain ⟨s, m, i, e1⟩ := hx
  by_cases hm : m = 0
  · refine ⟨double.write (.number s m i), ?_, ?_⟩
    · unfold Format.sqrt; rw [e1]
      show (Datum.root 54 (.number s m i)).map double.write = _
      subst hm
      rfl
    · have z : numv s m i = 0 := by
        unfold numv
        have : ((m : Nat) : Rat) = 0 := by rw [hm]; rfl
        rw [this]
        cases s <;> simp
      obtain ⟨f, g1, g2, _⟩ := write_near s m i 0 0 z (by grind) (by grind) ⟨.inl rfl, p2_pos _⟩
      have v0 : val (double.write (.number s m i)) = 0 := by grind
      rw [val_of e1, z, v0]
      refine ⟨f, ?_⟩
      grind
  · have hs : s = false := by
      cases s
      · rfl
      · exfalso
        rw [val_of e1] at h0
        unfold numv at h0
        simp at h0
        exact hm (nat_zero_of (p := i) (by grind))
    subst hs
    obtain ⟨w, k, c, hr, w1, w2, w3, hc, hk⟩ := root_eq m i hm
    have hi := read_place e1
    obtain ⟨Z, hZ⟩ : ∃ Z : Nat, Z = 2 * w + (w * w != m * 2 ^ k).toNat := ⟨_, rfl⟩
    rw [← hZ] at hr
    have hv : val x = ((m * 2 ^ k : Nat) : Rat) * (p2 c * p2 c) := by
      rw [val_of e1, ← p2_add, ← hc, p2_mul_nat, show (k : Int) + (i - k) = i by omega]
      rfl
    have hP : p2 c = 2 * p2 (c - 1) := by rw [← p2_succ]; congr 1; omega
    have hcast : ∀ a b : Nat, a ≤ b → (a : Rat) ≤ (b : Rat) := fun a b h => Rat.natCast_le_natCast.2 h
    have q1 := hcast _ _ w1
    have q2 := hcast _ _ (Nat.le_of_lt w2)
    have q3 := hcast _ _ w3
    have q4 := hcast _ _ (show 2 * w ≤ Z by omega)
    have q5 := hcast Z (2 * w + 1) (by rw [hZ]; cases (w * w != m * 2 ^ k) <;> simp)
    simp only [Rat.natCast_mul w, Rat.natCast_mul (w + 1), Rat.natCast_add, Rat.natCast_mul 2] at q1 q2 q3 q4 q5
    have one : ((1 : Nat) : Rat) = 1 := rfl
    have two : ((2 : Nat) : Rat) = 2 := rfl
    have big : ((18014398509481984 : Nat) : Rat) = 18014398509481984 := rfl
    rw [one] at q2 q5
    rw [two] at q4 q5
    rw [big] at q3
    have hp := p2_pos (c - 1)
    have t1 := Rat.mul_le_mul_of_nonneg_left q4 (Rat.le_of_lt hp)
    have t2 := Rat.mul_le_mul_of_nonneg_left q5 (Rat.le_of_lt hp)
    obtain ⟨r1, r2, r3⟩ := root_near (w : Rat) ((m * 2 ^ k : Nat) : Rat) (p2 c) ((Z : Rat) * p2 (c - 1)) (val x) (p2_pos c) q3 q1 q2 hv (by rw [hP]; grind) (by rw [hP]; grind)
    obtain ⟨ζ, hζ⟩ : ∃ ζ, ζ = (Z : Rat) * p2 (c - 1) := ⟨_, rfl⟩
    rw [← hζ] at r1 r2 r3
    have hlow : p2 (-1000) ≤ ζ := by
      have a1 := p2_mono (show (-1000 : Int) ≤ c - 1 by omega)
      have a2 := Rat.mul_le_mul_of_nonneg_left (show (1 : Rat) ≤ (Z : Rat) by grind) (Rat.le_of_lt hp)
      grind
    have hev : eps * val x ≤ val x := by
      have := Rat.mul_le_mul_of_nonneg_left (show eps ≤ 1 by decide +kernel) h0
      grind
    have hhigh : ζ < p2 900 := by
      by_cases h' : ζ < p2 900
      · exact h'
      · exfalso
        have h := Rat.not_lt.1 h'
        have a1 := Rat.mul_le_mul_of_nonneg_left h (Rat.le_of_lt r3)
        have a2 := Rat.mul_le_mul_of_nonneg_left h (Rat.le_of_lt (p2_pos 900))
        have a3 : 2 * p2 900 < p2 900 * p2 900 := by decide +kernel
        grind
    have h950 : p2 900 < p2 950 := by decide +kernel
    have hn := write_nonneg Z (c - 1) (by rw [← hζ]; grind)
    obtain ⟨f, g1, g2, _⟩ := write_near false Z (c - 1) ζ ζ (by rw [hζ]; rfl) (by grind) (by grind) ⟨.inr hlow, hhigh⟩
    refine ⟨double.write (.number false Z (c - 1)), ?_, f, hn, ?_⟩
    · unfold Format.sqrt; rw [e1]
      show (Datum.root 54 (.number false m i)).map double.write = _
      rw [hr]; rfl
    · exact sq_near _ ζ (val x) hn r3 g1 g2 r1 r2 h0
end Go.Proofs.Qxb6608579a
