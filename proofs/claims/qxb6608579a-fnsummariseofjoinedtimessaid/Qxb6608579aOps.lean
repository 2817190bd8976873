/- The model's arithmetic on doubles, in rational numbers. -/
import Derived.Test.Qxb6608579aVal
namespace Go.Proofs.Qxb6608579a
open Ieee

theorem int_num (z : Int) (b : Bool) (hb : z ≠ 0 → b = decide (z < 0)) (p : Int) : numv b z.natAbs p = (z : Rat) * p2 p := by
  unfold numv
  by_cases h0 : z = 0
  · subst h0
    have : ((Int.natAbs 0 : Nat) : Rat) = 0 := rfl
    have h2 : ((0 : Int) : Rat) = 0 := rfl
    rw [this, h2]
    cases b <;> simp
  · rw [hb h0]
    by_cases hneg : z < 0
    · rw [if_pos (by simpa using hneg)]
      have e : z = -(z.natAbs : Int) := by omega
      have e2 : (z : Rat) = -((z.natAbs : Nat) : Rat) := by
        conv => lhs; rw [e]
        rw [Rat.intCast_neg, Rat.intCast_natCast]
      rw [e2]; grind
    · rw [if_neg (by simpa using hneg)]
      have e : z = (z.natAbs : Int) := by omega
      have e2 : (z : Rat) = ((z.natAbs : Nat) : Rat) := by
        conv => lhs; rw [e]
        rw [Rat.intCast_natCast]
      rw [e2]

theorem signed_val (s : Bool) (m : Nat) (i base : Int) (h : base ≤ i) : ((signed s m (i - base).toNat : Int) : Rat) * p2 base = numv s m i := by
  have hk : ((m <<< (i - base).toNat : Nat) : Rat) * p2 base = (m : Rat) * p2 i := by
    rw [Nat.shiftLeft_eq, p2_mul_nat, show (((i - base).toNat : Nat) : Int) + base = i by omega]
  unfold signed numv
  cases s
  · simp only [Bool.false_eq_true, if_false]
    rw [Rat.intCast_natCast]; exact hk
  · simp only [if_true]
    rw [Rat.intCast_neg, Rat.intCast_natCast, ← hk]; grind

theorem sum_val (s t : Bool) (m n : Nat) (i j : Int) :
    ∃ b k p, Datum.sum (.number s m i) (.number t n j) = some (.number b k p) ∧ numv b k p = numv s m i + numv t n j := by
  refine ⟨_, _, _, rfl, ?_⟩
  rw [int_num _ _ (fun h => by rw [if_neg h])]
  rw [Rat.intCast_add, ← signed_val s m i (min i j) (by omega), ← signed_val t n j (min i j) (by omega)]
  grind

/-- '+' -/
theorem add_ok {x y : Nat} (hx : Fin x) (hy : Fin y) :
    ∃ r, double.add x y = some r ∧ ∀ B, Sc B → -B ≤ val x + val y → val x + val y ≤ B → Fin r ∧ val x + val y - eps * B ≤ val r ∧ val r ≤ val x + val y + eps * B ∧ (0 ≤ val x + val y → 0 ≤ val r) := by
  obtain ⟨s, m, i, e1⟩ := hx
  obtain ⟨t, n, j, e2⟩ := hy
  obtain ⟨b, k, p, h1, h2⟩ := sum_val s t m n i j
  refine ⟨double.write (.number b k p), ?_, fun B hB l u => ?_⟩
  · unfold Format.add; rw [e1, e2, h1]; rfl
  · rw [val_of e1, val_of e2] at *
    exact write_near b k p _ B h2 l u hB

/-- '-' -/
theorem sub_ok {x y : Nat} (hx : Fin x) (hy : Fin y) :
    ∃ r, double.sub x y = some r ∧ ∀ B, Sc B → -B ≤ val x - val y → val x - val y ≤ B → Fin r ∧ val x - val y - eps * B ≤ val r ∧ val r ≤ val x - val y + eps * B ∧ (0 ≤ val x - val y → 0 ≤ val r) := by
  obtain ⟨s, m, i, e1⟩ := hx
  obtain ⟨t, n, j, e2⟩ := hy
  obtain ⟨b, k, p, h1, h2⟩ := sum_val s (!t) m n i j
  rw [numv_neg] at h2
  refine ⟨double.write (.number b k p), ?_, fun B hB l u => ?_⟩
  · unfold Format.sub; rw [e1, e2]; show (Datum.sum (.number s m i) (.number (!t) n j)).map double.write = _; rw [h1]; rfl
  · rw [val_of e1, val_of e2] at *
    exact write_near b k p _ B (by grind) l u hB

theorem prod_val (s t : Bool) (m n : Nat) (i j : Int) : numv (s ^^ t) (m * n) (i + j) = numv s m i * numv t n j := by
  unfold numv
  rw [Rat.natCast_mul, p2_add]
  cases s <;> cases t <;> simp <;> grind

/-- '*' -/
theorem mul_ok {x y : Nat} (hx : Fin x) (hy : Fin y) :
    ∃ r, double.mul x y = some r ∧ (∀ B, Sc B → -B ≤ val x * val y → val x * val y ≤ B → Fin r ∧ val x * val y - eps * B ≤ val r ∧ val r ≤ val x * val y + eps * B ∧ (0 ≤ val x * val y → 0 ≤ val r)) ∧
      (∀ k : Nat, k < 9007199254740992 → val x * val y = (k : Rat) → Fin r ∧ val r = (k : Rat)) := by
  obtain ⟨s, m, i, e1⟩ := hx
  obtain ⟨t, n, j, e2⟩ := hy
  refine ⟨double.write (.number (s ^^ t) (m * n) (i + j)), ?_, fun B hB l u => ?_, fun k hk e => ?_⟩
  · unfold Format.mul; rw [e1, e2]; rfl
  · rw [val_of e1, val_of e2] at *
    exact write_near _ _ _ _ B (prod_val s t m n i j) l u hB
  · rw [val_of e1, val_of e2, ← prod_val] at e
    obtain ⟨R, hR⟩ := nat_rung k hk
    have hpos : (0 : Rat) ≤ (k : Rat) := Rat.natCast_le_natCast.2 (Nat.zero_le k)
    have hn := natmul_nonneg (m * n) (i + j)
    have habs : ((m * n : Nat) : Rat) * p2 (i + j) = gval R := by
      rw [hR]
      unfold numv at e
      cases hst : (s ^^ t) <;> simp [hst] at e <;> grind
    have hlt : gval R < p2 950 := by
      rw [hR]
      have h1 : (k : Rat) < ((9007199254740992 : Nat) : Rat) := Rat.natCast_lt_natCast.2 hk
      have h2 : ((9007199254740992 : Nat) : Rat) < p2 950 := by decide +kernel
      grind
    obtain ⟨f, g⟩ := write_exact (s ^^ t) (m * n) (i + j) R habs hlt
    exact ⟨f, g.trans e⟩
end Go.Proofs.Qxb6608579a
