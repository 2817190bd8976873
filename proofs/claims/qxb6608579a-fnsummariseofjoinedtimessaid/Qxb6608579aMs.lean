/- A time in milliseconds: float64(t) / 1e6: near, and in the order of the times. -/
import Derived.Test.Qxb6608579aOrd
namespace Go.Proofs.Qxb6608579a
open Ieee

/-- 1e6 -/
abbrev W6 : Nat := 4696837146684686336
theorem read_W6 : double.read W6 = .number false 8589934592000000 (-33) := by decide +kernel
theorem fin_W6 : Fin W6 := ⟨_, _, _, read_W6⟩
theorem val_W6 : val W6 = 1000000 := by rw [val_of read_W6]; decide +kernel

/-- float64(t) / 1e6 -/
def ms (t : Int) : Nat := (double.div (floatOfInt .f64 t) W6).getD 0

theorem fin_of_near {x : Nat} {P : Prop} (h : Fin x ∧ P) : Fin x := h.1

theorem abs_int (t : Int) : ∃ a : Rat, (a = 0 ∨ 1 ≤ a) ∧ -a ≤ (t : Rat) ∧ (t : Rat) ≤ a ∧ (a = (t : Rat) ∨ a = -(t : Rat)) ∧ a = ((t.natAbs : Nat) : Rat) := by
  refine ⟨((t.natAbs : Nat) : Rat), ?_, ?_, ?_, ?_, rfl⟩
  · by_cases h : t = 0
    · left; rw [h]; rfl
    · right
      exact Rat.natCast_le_natCast.2 (show 1 ≤ t.natAbs by omega)
  · have := Rat.intCast_le_intCast.2 (show -(t.natAbs : Int) ≤ t by omega)
    rw [Rat.intCast_neg, Rat.intCast_natCast] at this
    exact this
  · have := Rat.intCast_le_intCast.2 (show t ≤ (t.natAbs : Int) by omega)
    rw [Rat.intCast_natCast] at this
    exact this
  · rcases (show t < 0 ∨ 0 ≤ t by omega) with h | h
    · right
      have := congrArg (fun z : Int => (z : Rat)) (show (t.natAbs : Int) = -t by omega)
      simp only [Rat.intCast_neg, Rat.intCast_natCast] at this
      exact this
    · left
      have := congrArg (fun z : Int => (z : Rat)) (show (t.natAbs : Int) = t by omega)
      simp only [Rat.intCast_natCast] at this
      exact this

theorem sc_of (B : Rat) (h : B = 0 ∨ p2 (-900) ≤ B) (h2 : B ≤ p2 800) : Sc B := by
  refine ⟨?_, ?_⟩
  · rcases h with h | h
    · exact .inl h
    · exact .inr (Rat.le_trans (p2_mono (by decide)) h)
  · have : p2 800 < p2 900 := by decide +kernel
    grind

/-- What a time in milliseconds is, within rounding: a is the time's magnitude. -/
theorem ms_near (t : Int) (ht : t.natAbs ≤ 9223372036854775808) :
    double.div (floatOfInt .f64 t) W6 = some (ms t) ∧ Fin (floatOfInt .f64 t) ∧ Fin (ms t) ∧
      (t : Rat) / 1000000 - 7 * (eps * ((t.natAbs : Nat) : Rat) / 1000000) ≤ val (ms t) ∧ val (ms t) ≤ (t : Rat) / 1000000 + 7 * (eps * ((t.natAbs : Nat) : Rat) / 1000000) ∧ (0 ≤ t → 0 ≤ val (ms t)) := by
  obtain ⟨a, ha, l, u, hs, ha2⟩ := abs_int t
  have hbig : a ≤ 9223372036854775808 := by
    rw [ha2]
    exact Rat.natCast_le_natCast.2 ht
  have p900 : p2 (-900) ≤ 1 / 1000000 := by decide +kernel
  have p800 : 9223372036854775808 ≤ p2 800 := by decide +kernel
  have hsc : Sc a := sc_of a (by rcases ha with h | h; exact .inl h; right; grind) (by grind)
  obtain ⟨f, g1, g2, g3⟩ := ofInt_near t a hsc l u
  obtain ⟨r, hr, hr2⟩ := div_ok f fin_W6 (by rw [val_W6]; decide)
  have hms : ms t = r := by unfold ms; rw [hr]; rfl
  have ea : 0 ≤ eps * a := Rat.mul_nonneg (Rat.le_of_lt eps_pos) hsc.nonneg
  have ea2 : eps * a ≤ a := by
    have := Rat.mul_le_mul_of_nonneg_left (show eps ≤ 1 by decide +kernel) hsc.nonneg
    grind
  obtain ⟨k1, k2, k3, k4⟩ := hr2 (2 * a / 1000000) (val (floatOfInt .f64 t) / 1000000) (sc_of _ (by rcases ha with h | h; left; rw [h]; decide +kernel; right; grind) (by grind)) (by rw [val_W6]; grind) (by grind) (by grind)
  rw [hms, ← ha2]
  refine ⟨hr, f, k1, ?_, ?_, fun h0 => k4 ?_⟩
  · grind
  · grind
  · have h1 := g3 (Rat.intCast_le_intCast.2 h0)
    grind

theorem val_ofInt_pos (t : Int) (h1 : 1 ≤ t) (h2 : t ≤ 9223372036854775808) :
    ∃ R, floatOfInt .f64 t = double.word false R ∧ 4607182418800017408 ≤ R ∧ R < 9218868437227405312 ∧ IsRnd (t : Rat) R := by
  have hd : decide (t < 0) = false := by simp; omega
  have e1 := ofInt_num t
  rw [hd] at e1
  have e2 : (t.natAbs : Rat) * p2 0 = (t : Rat) := e1
  have hle : (t : Rat) ≤ 9223372036854775808 := Rat.intCast_le_intCast.2 h2
  obtain ⟨R, h, hR, hr, _⟩ := round_spec false t.natAbs 0 (by
    rw [e2]
    have : (9223372036854775808 : Rat) < p2 950 := by decide +kernel
    grind)
  rw [e2] at hr
  refine ⟨R, ?_, ?_, hR, hr⟩
  · rw [ofInt_write, hd]
    exact h
  · have g1 : gval 4607182418800017408 = 1 := by decide +kernel
    have h0 := rnd_self 4607182418800017408
    rw [g1] at h0
    exact h0.mono hr (Rat.intCast_le_intCast.2 h1)

theorem quo_mono {m n d : Nat} (h : m ≤ n) : 2 * (m / d) + (m % d != 0).toNat ≤ 2 * (n / d) + (n % d != 0).toNat := by
  have h1 := Nat.div_le_div_right (c := d) h
  rcases Nat.lt_or_ge (m / d) (n / d) with h2 | h2
  · cases (m % d != 0) <;> cases (n % d != 0) <;> simp <;> omega
  · have e : m / d = n / d := by omega
    have a1 := Nat.div_add_mod m d
    have a2 := Nat.div_add_mod n d
    rw [e] at a1
    have a3 : m % d ≤ n % d := by omega
    cases hm : (m % d != 0) <;> cases hn' : (n % d != 0) <;> simp at hm hn' ⊢ <;> omega

theorem log2_of {m : Nat} (h1 : 4503599627370496 ≤ m) (h2 : m < 9007199254740992) : m.log2 = 52 := by
  have hm : m ≠ 0 := by omega
  have a1 : 2 ^ m.log2 ≤ m := Nat.log2_self_le hm
  have a2 : m < 2 ^ (m.log2 + 1) := Nat.lt_log2_self
  rcases Nat.lt_trichotomy m.log2 52 with h | h | h
  · have := Nat.pow_le_pow_right (n := 2) (by decide) (show m.log2 + 1 ≤ 52 by omega)
    omega
  · exact h
  · have := Nat.pow_le_pow_right (n := 2) (by decide) (show 53 ≤ m.log2 by omega)
    omega

/-- Times above zero, in milliseconds, stand as the times do. -/
theorem ms_mono (t u : Int) (h1 : 1 ≤ t) (h2 : t ≤ u) (h3 : u ≤ 9223372036854775808) : val (ms t) ≤ val (ms u) := by
  obtain ⟨R, eR, lR, uR, rR⟩ := val_ofInt_pos t h1 (by omega)
  obtain ⟨S, eS, lS, uS, rS⟩ := val_ofInt_pos u (by omega) h3
  have hRS := rR.mono rS (Rat.intCast_le_intCast.2 h2)
  have dR := read_word false R uR
  have dS := read_word false S uS
  rw [if_neg (by omega)] at dR dS
  obtain ⟨m, hm⟩ : ∃ m, m = 4503599627370496 + R % 4503599627370496 := ⟨_, rfl⟩
  obtain ⟨n, hn⟩ : ∃ n, n = 4503599627370496 + S % 4503599627370496 := ⟨_, rfl⟩
  obtain ⟨i, hi⟩ : ∃ i : Int, i = -1074 + ((R / 4503599627370496 - 1 : Nat) : Int) := ⟨_, rfl⟩
  obtain ⟨j, hj⟩ : ∃ j : Int, j = -1074 + ((S / 4503599627370496 - 1 : Nat) : Int) := ⟨_, rfl⟩
  rw [← hm, ← hi] at dR
  rw [← hn, ← hj] at dS
  have lm := log2_of (m := m) (by omega) (by omega)
  have ln := log2_of (m := n) (by omega) (by omega)
  have l6 : (8589934592000000 : Nat).log2 = 52 := by decide +kernel
  have moreR : moreOf m 8589934592000000 = 54 := by unfold moreOf; rw [lm, l6]
  have moreS : moreOf n 8589934592000000 = 54 := by unfold moreOf; rw [ln, l6]
  have mR : ms t = double.write (.number false (quoOf m 8589934592000000) (placeOf m 8589934592000000 i (-33))) := by
    unfold ms
    rw [eR]
    unfold Format.div
    rw [dR, read_W6]
    show ((Datum.quotient 54 (.number false m i) (.number false 8589934592000000 (-33))).map double.write).getD 0 = _
    rw [quot_eq _ _ _ _ _ _ (by decide)]
    rfl
  have mS : ms u = double.write (.number false (quoOf n 8589934592000000) (placeOf n 8589934592000000 j (-33))) := by
    unfold ms
    rw [eS]
    unfold Format.div
    rw [dS, read_W6]
    show ((Datum.quotient 54 (.number false n j) (.number false 8589934592000000 (-33))).map double.write).getD 0 = _
    rw [quot_eq _ _ _ _ _ _ (by decide)]
    rfl
  have pR : placeOf m 8589934592000000 i (-33) = i - 22 := by unfold placeOf; rw [moreR]; omega
  have pS : placeOf n 8589934592000000 j (-33) = j - 22 := by unfold placeOf; rw [moreS]; omega
  have c6 : ((8589934592000000 : Nat) : Rat) * p2 (-33) = 1000000 := by decide +kernel
  have p22 : ∀ e : Int, p2 e = 4194304 * p2 (e - 22) := fun e => by
    have : p2 22 = 4194304 := by decide +kernel
    rw [← this, ← p2_add]
    congr 1
    omega
  obtain ⟨a1, a2, _⟩ := mag_div m 8589934592000000 i (-33) (by decide) ((m : Rat) * p2 i / 1000000) (by rw [c6]; grind)
  obtain ⟨b1, b2, _⟩ := mag_div n 8589934592000000 j (-33) (by decide) ((n : Rat) * p2 j / 1000000) (by rw [c6]; grind)
  rw [pR] at a1 a2 mR
  rw [pS] at b1 b2 mS
  rw [p22 i] at a1 a2
  rw [p22 j] at b1 b2
  have hm1 : (m : Rat) ≤ 9007199254740991 := Rat.natCast_le_natCast.2 (show m ≤ 9007199254740991 by omega)
  have hn1 : (4503599627370496 : Rat) ≤ (n : Rat) := Rat.natCast_le_natCast.2 (show 4503599627370496 ≤ n by omega)
  have hn2 : (n : Rat) ≤ 9007199254740991 := Rat.natCast_le_natCast.2 (show n ≤ 9007199254740991 by omega)
  have hP := p2_pos (i - 22)
  have hQ := p2_pos (j - 22)
  have hle : ((quoOf m 8589934592000000 : Nat) : Rat) * p2 (i - 22) ≤ ((quoOf n 8589934592000000 : Nat) : Rat) * p2 (j - 22) := by
    by_cases hij : i = j
    · have hmn : m ≤ n := by omega
      have hq : quoOf m 8589934592000000 ≤ quoOf n 8589934592000000 := by
        unfold quoOf
        rw [moreR, moreS]
        exact quo_mono (Nat.mul_le_mul_right _ hmn)
      rw [hij]
      have := Rat.mul_le_mul_of_nonneg_left (Rat.natCast_le_natCast.2 hq) (Rat.le_of_lt hQ)
      grind
    · have hlt : i + 1 ≤ j := by omega
      have c1 := p2_mono (show i - 22 + 1 ≤ j - 22 by omega)
      rw [p2_succ] at c1
      have c2 := Rat.mul_le_mul_of_nonneg_left hm1 (Rat.le_of_lt hP)
      have c3 := Rat.mul_le_mul_of_nonneg_left hn1 (Rat.le_of_lt hQ)
      clear mR mS p22 c6 dR dS eR eS rR rS
      grind
  have hlow : ((quoOf n 8589934592000000 : Nat) : Rat) * p2 (j - 22) < p2 950 := by
    have c1 := Rat.mul_le_mul_of_nonneg_left hn2 (Rat.le_of_lt hQ)
    have hj2 : j ≤ 800 := by
      rcases (show 800 < j ∨ j ≤ 800 by omega) with h | h
      · exfalso
        have g1 : gval (1875 * 4503599627370496 + 4503599627370496) ≤ gval S := gval_mono (by omega)
        have g2 : gval (1875 * 4503599627370496 + 4503599627370496) = p2 853 := by decide +kernel
        have g3 := (rS.down (S - 1) (by omega))
        have g4 := gval_nonneg (S - 1)
        have g5 : (u : Rat) ≤ 9223372036854775808 := Rat.intCast_le_intCast.2 h3
        have g6 : 2 * 9223372036854775808 < p2 853 := by decide +kernel
        grind
      · exact h
    have c2 := p2_mono (show j - 22 ≤ 800 by omega)
    have c3 : 9007199254740991 * 4194304 * p2 800 + p2 800 < p2 950 := by decide +kernel
    grind
  obtain ⟨A, wA, hA, rA, _⟩ := round_spec false (quoOf m 8589934592000000) (i - 22) (by grind)
  obtain ⟨B, wB, hB, rB, _⟩ := round_spec false (quoOf n 8589934592000000) (j - 22) hlow
  have hAB := rA.mono rB hle
  have vA : val (ms t) = gval A := by rw [mR]; show val (double.nearest _ _ _) = _; rw [wA]; exact (word_val false A hA).2
  have vB : val (ms u) = gval B := by rw [mS]; show val (double.nearest _ _ _) = _; rw [wB]; exact (word_val false B hB).2
  rw [vA, vB]
  exact gval_mono hAB
end Go.Proofs.Qxb6608579a
