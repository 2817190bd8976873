/- Whole numbers as doubles; the order of doubles; the greater of two; the opposite. -/
import Derived.Test.Qxb6608579aSqrt
import Derived.Laws.FloatArith
import GoSem.Op.Unary
namespace Go.Proofs.Qxb6608579a
open Ieee

/-- float64(n) -/
theorem ofInt_write (n : Int) : floatOfInt .f64 n = double.write (.number (decide (n < 0)) n.natAbs 0) := rfl

theorem ofInt_num (n : Int) : numv (decide (n < 0)) n.natAbs 0 = (n : Rat) := by
  rw [int_num n _ (fun _ => rfl), p2_zero, Rat.mul_one]

theorem ofInt_near (n : Int) (B : Rat) (hB : Sc B) (h1 : -B ≤ (n : Rat)) (h2 : (n : Rat) ≤ B) :
    Fin (floatOfInt .f64 n) ∧ (n : Rat) - eps * B ≤ val (floatOfInt .f64 n) ∧ val (floatOfInt .f64 n) ≤ (n : Rat) + eps * B ∧ (0 ≤ (n : Rat) → 0 ≤ val (floatOfInt .f64 n)) := by
  rw [ofInt_write]
  exact write_near _ _ _ _ B (ofInt_num n) h1 h2 hB

theorem ofInt_exact (n : Int) (h1 : -9007199254740992 < n) (h2 : n < 9007199254740992) : Fin (floatOfInt .f64 n) ∧ val (floatOfInt .f64 n) = (n : Rat) := by
  rw [ofInt_write]
  obtain ⟨R, hR⟩ := nat_rung n.natAbs (by omega)
  have hlt : gval R < p2 950 := by
    rw [hR]
    have h1 : ((n.natAbs : Nat) : Rat) < ((9007199254740992 : Nat) : Rat) := Rat.natCast_lt_natCast.2 (by omega)
    have h2 : ((9007199254740992 : Nat) : Rat) < p2 950 := by decide +kernel
    grind
  obtain ⟨f, g⟩ := write_exact (decide (n < 0)) n.natAbs 0 R (by rw [p2_zero, Rat.mul_one]; exact hR.symm) hlt
  exact ⟨f, g.trans (ofInt_num n)⟩

/-- The order of two doubles is that of their numbers. -/
theorem order_val {x y : Nat} (hx : Fin x) (hy : Fin y) :
    (double.order x y = some .lt ↔ val x < val y) ∧ (double.order x y = some .eq ↔ val x = val y) ∧ (double.order x y = some .gt ↔ val y < val x) := by
  obtain ⟨s, m, i, e1⟩ := hx
  obtain ⟨t, n, j, e2⟩ := hy
  have h : double.order x y = some (compare (signed s m (i - min i j).toNat) (signed t n (j - min i j).toNat)) := by
    unfold Format.order
    rw [e1, e2]
    rfl
  have a1 := signed_val s m i (min i j) (by omega)
  have a2 := signed_val t n j (min i j) (by omega)
  have hp := p2_pos (min i j)
  rw [h, val_of e1, val_of e2, ← a1, ← a2]
  generalize signed s m (i - min i j).toNat = a
  generalize signed t n (j - min i j).toNat = b
  generalize p2 (min i j) = P at *
  have lt_iff : ∀ c d : Int, ((c : Rat) * P < (d : Rat) * P ↔ c < d) := fun c d => by
    constructor
    · intro h'
      have := Rat.lt_of_mul_lt_mul_right h' (Rat.le_of_lt hp)
      exact Rat.intCast_lt_intCast.1 this
    · intro h'
      exact Rat.mul_lt_mul_of_pos_right (Rat.intCast_lt_intCast.2 h') hp
  have eq_iff : ((a : Rat) * P = (b : Rat) * P ↔ a = b) := by
    constructor
    · intro h'
      rcases Int.lt_trichotomy a b with h1 | h1 | h1
      · have := (lt_iff a b).2 h1; grind
      · exact h1
      · have := (lt_iff b a).2 h1; grind
    · intro h'; rw [h']
  rw [lt_iff, lt_iff, eq_iff]
  simp only [Option.some.injEq]
  refine ⟨Int.compare_eq_lt, Int.compare_eq_eq, Int.compare_eq_gt⟩
end Go.Proofs.Qxb6608579a
