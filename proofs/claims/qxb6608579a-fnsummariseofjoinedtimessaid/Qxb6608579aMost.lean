/- The greatest of the times; their greatest magnitude. -/
import Derived.Test.Qxb6608579aStat
namespace Go.Proofs.Qxb6608579a
open Ieee

theorem neg_val {x : Nat} (hx : Fin x) : Fin (Go.Op.negFloat .f64 x) ∧ val (Go.Op.negFloat .f64 x) = -val x := by
  obtain ⟨s, m, p, e⟩ := hx
  have e1 : double.signWeight = 9223372036854775808 := by decide
  have hd : Go.Op.negFloat .f64 x = x ^^^ 2 ^ 63 := rfl
  have h2 : (x ^^^ 2 ^ 63) % 9223372036854775808 = x % 9223372036854775808 := by
    have := Nat.xor_mod_two_pow (a := x) (b := 2 ^ 63) (n := 63)
    rw [show (9223372036854775808 : Nat) = 2 ^ 63 by decide, this, Nat.mod_self, Nat.xor_zero]
  have h1 : ((x ^^^ 2 ^ 63) / 9223372036854775808 % 2 == 1) = !(x / 9223372036854775808 % 2 == 1) := by
    have a1 := Nat.testBit_xor x (2 ^ 63) 63
    rw [Nat.testBit_eq_decide_div_mod_eq, Nat.testBit_eq_decide_div_mod_eq, Nat.testBit_two_pow_self] at a1
    rw [show (9223372036854775808 : Nat) = 2 ^ 63 by decide]
    have b1 : ∀ z : Nat, (z == 1) = decide (z = 1) := fun z => by
      by_cases h : z = 1
      · rw [h]; rfl
      · simp [h]
    rw [b1, b1, a1]
    cases decide (x / 2 ^ 63 % 2 = 1) <;> rfl
  have hr : double.read (Go.Op.negFloat .f64 x) = .number (!s) m p := by
    rw [hd]
    unfold Format.read at e ⊢
    simp only [e1] at e ⊢
    rw [h1, h2]
    split at e
    · injection e with q1 q2 q3
      rw [if_pos (by assumption), ← q1, q2, q3]
    · rw [if_neg (by assumption)]
      split at e
      · injection e with q1 q2 q3
        rw [if_pos (by assumption), ← q1, q2, q3]
      · split at e <;> cases e
  exact ⟨⟨_, _, _, hr⟩, by rw [val_of hr, val_of e, numv_neg]⟩

/-- zzb1Abs -/
def fabs (x : Nat) : Nat := if double.order x 0 == some .lt then Go.Op.negFloat .f64 x else x

theorem abs_val {x : Nat} (hx : Fin x) : Fin (fabs x) ∧ val x ≤ val (fabs x) ∧ -val x ≤ val (fabs x) ∧ (val (fabs x) = val x ∨ val (fabs x) = -val x) ∧ 0 ≤ val (fabs x) := by
  obtain ⟨o1, _, _⟩ := order_val hx fin_zero
  rw [val_zero] at o1
  unfold fabs
  by_cases h : double.order x 0 = some .lt
  · rw [if_pos (by rw [h]; rfl)]
    obtain ⟨f, g⟩ := neg_val hx
    have := o1.1 h
    refine ⟨f, by grind, by grind, .inr g, by grind⟩
  · rw [if_neg (by simpa using h)]
    have : ¬ val x < 0 := fun h' => h (o1.2 h')
    refine ⟨hx, by grind, by grind, .inl rfl, by grind⟩

/-- max of two floats -/
def fmax (x y : Nat) : Nat :=
  match double.order x y with
  | none => 0
  | some .lt => y
  | some .gt => x
  | some .eq => if (double.read x).neg then y else x

theorem max_val {x y : Nat} (hx : Fin x) (hy : Fin y) : Fin (fmax x y) ∧ val x ≤ val (fmax x y) ∧ val y ≤ val (fmax x y) ∧ (val (fmax x y) = val x ∨ val (fmax x y) = val y) := by
  obtain ⟨o1, o2, o3⟩ := order_val hx hy
  unfold fmax
  rcases (show val x < val y ∨ val x = val y ∨ val y < val x by grind) with h | h | h
  · rw [o1.2 h]
    exact ⟨hy, by grind, by grind, .inr rfl⟩
  · rw [o2.2 h]
    simp only
    split
    · exact ⟨hy, by grind, by grind, .inr rfl⟩
    · exact ⟨hx, by grind, by grind, .inl rfl⟩
  · rw [o3.2 h]
    exact ⟨hx, by grind, by grind, .inl rfl⟩

theorem max_order {x y : Nat} (hx : Fin x) (hy : Fin y) : double.order x y ≠ none := by
  obtain ⟨o1, o2, o3⟩ := order_val hx hy
  rcases (show val x < val y ∨ val x = val y ∨ val y < val x by grind) with h | h | h
  · rw [o1.2 h]; exact nofun
  · rw [o2.2 h]; exact nofun
  · rw [o3.2 h]; exact nofun

def mostTo (x : Nat → Nat) : Nat → Nat
  | 0 => 0
  | k + 1 => fmax (mostTo x k) (x k)

theorem most_spec (x : Nat → Nat) : ∀ k, (∀ i, i < k → Fin (x i)) →
    Fin (mostTo x k) ∧ 0 ≤ val (mostTo x k) ∧ (∀ i, i < k → val (x i) ≤ val (mostTo x k)) ∧ (val (mostTo x k) = 0 ∨ ∃ i, i < k ∧ val (mostTo x k) = val (x i))
  | 0, _ => ⟨fin_zero, by unfold mostTo; rw [val_zero]; exact Rat.le_refl, fun i hi => absurd hi (Nat.not_lt_zero _), .inl val_zero⟩
  | k + 1, h => by
    obtain ⟨f, h0, h1, h2⟩ := most_spec x k (fun i hi => h i (by omega))
    obtain ⟨mf, m1, m2, m3⟩ := max_val f (h k (by omega))
    refine ⟨mf, Rat.le_trans h0 m1, fun i hi => ?_, ?_⟩
    · show _ ≤ val (fmax _ _)
      by_cases e : i = k
      · rw [e]; exact m2
      · exact Rat.le_trans (h1 i (by omega)) m1
    · show val (fmax _ _) = 0 ∨ _
      rcases m3 with e | e
      · rcases h2 with h2 | ⟨i, hi, h2⟩
        · left; rw [e]; exact h2
        · right; exact ⟨i, by omega, by show val (fmax _ _) = _; rw [e]; exact h2⟩
      · right; exact ⟨k, by omega, e⟩

/-- zzb1BigMs: the greatest magnitude so far. -/
def bigStep (b y : Nat) : Nat := if double.order (fabs y) b == some .gt then fabs y else b

def bigTo (s : Nat) (x : Nat → Nat) : Nat → Nat
  | 0 => s
  | k + 1 => bigStep (bigTo s x k) (x k)

theorem big_spec (s : Nat) (hs : Fin s) (hs0 : 0 ≤ val s) (x : Nat → Nat) : ∀ k, (∀ i, i < k → Fin (x i)) →
    Fin (bigTo s x k) ∧ val s ≤ val (bigTo s x k) ∧ (∀ i, i < k → -val (bigTo s x k) ≤ val (x i) ∧ val (x i) ≤ val (bigTo s x k)) ∧ (val (bigTo s x k) = val s ∨ ∃ i, i < k ∧ (val (bigTo s x k) = val (x i) ∨ val (bigTo s x k) = -val (x i)))
  | 0, _ => ⟨hs, Rat.le_refl, fun i hi => absurd hi (Nat.not_lt_zero _), .inl rfl⟩
  | k + 1, h => by
    obtain ⟨f, h0, h1, h2⟩ := big_spec s hs hs0 x k (fun i hi => h i (by omega))
    obtain ⟨af, a1, a2, a3, a4⟩ := abs_val (h k (by omega))
    obtain ⟨_, _, o3⟩ := order_val af f
    show Fin (bigStep _ _) ∧ _ ≤ val (bigStep _ _) ∧ (∀ i, i < k + 1 → -val (bigStep _ _) ≤ _ ∧ _ ≤ val (bigStep _ _)) ∧ (val (bigStep _ _) = _ ∨ ∃ i, i < k + 1 ∧ (val (bigStep _ _) = _ ∨ val (bigStep _ _) = _))
    unfold bigStep
    by_cases hc : double.order (fabs (x k)) (bigTo s x k) = some .gt
    · rw [if_pos (by rw [hc]; rfl)]
      have hlt := o3.1 hc
      refine ⟨af, by grind, fun i hi => ?_, .inr ⟨k, by omega, a3⟩⟩
      by_cases e : i = k
      · rw [e]; exact ⟨by grind, a1⟩
      · obtain ⟨b1, b2⟩ := h1 i (by omega)
        exact ⟨by grind, by grind⟩
    · rw [if_neg (by simpa using hc)]
      have hge : ¬ val (bigTo s x k) < val (fabs (x k)) := fun h' => hc (o3.2 h')
      refine ⟨f, h0, fun i hi => ?_, ?_⟩
      · by_cases e : i = k
        · rw [e]; exact ⟨by grind, by grind⟩
        · exact h1 i (by omega)
      · rcases h2 with h2 | ⟨i, hi, h2⟩
        · exact .inl h2
        · exact .inr ⟨i, by omega, h2⟩

/-! ### Times -/
/-- A time fits an int64. -/
def Fits (t : Int) : Prop := -9223372036854775808 ≤ t ∧ t ≤ 9223372036854775807

theorem Fits.abs {t : Int} (h : Fits t) : t.natAbs ≤ 9223372036854775808 := by unfold Fits at h; omega

theorem ms_neg {t : Int} (h : Fits t) (h0 : t ≤ 0) : val (ms t) ≤ 0 := by
  obtain ⟨_, _, _, _, h2, _⟩ := ms_near t h.abs
  have e : (t : Rat) = -((t.natAbs : Nat) : Rat) := by
    have := congrArg (fun z : Int => (z : Rat)) (show t = -(t.natAbs : Int) by omega)
    simp only [Rat.intCast_neg, Rat.intCast_natCast] at this
    exact this
  have hp : (0 : Rat) ≤ ((t.natAbs : Nat) : Rat) := Rat.natCast_le_natCast.2 (Nat.zero_le _)
  have he := Rat.mul_le_mul_of_nonneg_left (show 7 * eps ≤ 1 by decide +kernel) hp
  rw [e] at h2
  grind

/-- The size of a time in milliseconds is nought or not too small, and never too great. -/
theorem ms_size {t : Int} (h : Fits t) (v : Rat) (hv : v = val (ms t) ∨ v = -val (ms t)) (hv0 : 0 ≤ v) : MOk v := by
  obtain ⟨_, _, _, h1, h2, _⟩ := ms_near t h.abs
  obtain ⟨a, ha, l, u, hs, ha2⟩ := abs_int t
  rw [← ha2] at h1 h2
  have hb : a ≤ 9223372036854775808 := by rw [ha2]; exact Rat.natCast_le_natCast.2 h.abs
  have ha0 : 0 ≤ a := by rcases ha with h | h <;> grind
  have e7 := Rat.mul_le_mul_of_nonneg_left (show 14 * eps ≤ 1 by decide +kernel) ha0
  have p50 : 2 * 9223372036854775808 ≤ p2 50 * 1000000 := by decide +kernel
  have p30 : p2 (-30) * 2000000 ≤ 1 := by decide +kernel
  refine ⟨?_, ?_⟩
  · rcases ha with h0 | h0
    · left
      rw [h0] at h1 h2 l u hs
      rcases hv with e | e <;> rcases hs with k | k <;> grind
    · right
      rcases hv with e | e <;> rcases hs with k | k <;> grind
  · rcases hv with e | e <;> rcases hs with k | k <;> grind

/-- The size of a time against the size of its milliseconds. -/
theorem ms_back {t : Int} (h : Fits t) {M : Rat} (h1 : -M ≤ val (ms t)) (h2 : val (ms t) ≤ M) : ((t.natAbs : Nat) : Rat) ≤ 1100000 * M := by
  obtain ⟨_, _, _, l1, l2, _⟩ := ms_near t h.abs
  obtain ⟨a, ha, l, u, hs, ha2⟩ := abs_int t
  rw [← ha2] at l1 l2 ⊢
  have ha0 : 0 ≤ a := by rcases ha with h | h <;> grind
  have e7 := Rat.mul_le_mul_of_nonneg_left (show 7 * eps ≤ 1 / 1000 by decide +kernel) ha0
  rcases hs with k | k <;> grind

/-- The greatest of the times, by whole numbers, is the greatest of their milliseconds. -/
theorem top_eq (ts : Nat → Int) (n : Nat) (ht : ∀ i, i < n → Fits (ts i)) (r : Nat)
    (hr : (r = 0 ∧ ∀ i, i < n → ts i ≤ 0) ∨ ∃ j, j < n ∧ 0 < ts j ∧ (∀ i, i < n → ts i ≤ ts j) ∧ r = ms (ts j)) :
    double.order (mostTo (fun i => ms (ts i)) n) r = some .eq := by
  have hf : ∀ i, i < n → Fin (ms (ts i)) := fun i hi => (ms_near _ (ht i hi).abs).2.2.1
  obtain ⟨mf, m0, m1, m2⟩ := most_spec (fun i => ms (ts i)) n hf
  rcases hr with ⟨rfl, h0⟩ | ⟨j, hj, hpos, hmax, rfl⟩
  · refine (order_val mf fin_zero).2.1.2 ?_
    rw [val_zero]
    rcases m2 with e | ⟨i, hi, e⟩
    · exact e
    · have := ms_neg (ht i hi) (h0 i hi)
      grind
  · refine (order_val mf (hf j hj)).2.1.2 ?_
    have a1 := m1 j hj
    have a0 := (ms_near _ (ht j hj).abs).2.2.2.2.2 (by omega)
    rcases m2 with e | ⟨i, hi, e⟩
    · grind
    · have a2 : val (ms (ts i)) ≤ val (ms (ts j)) := by
        by_cases hi0 : ts i ≤ 0
        · have := ms_neg (ht i hi) hi0
          grind
        · have := ht j hj
          unfold Fits at this
          exact ms_mono _ _ (by omega) (hmax i hi) (by omega)
      grind
end Go.Proofs.Qxb6608579a
