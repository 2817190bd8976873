/- Joined times: the exact laws, and each term within rounding. -/
import Derived.Test.Qxb6608579aPairs
namespace Go.Proofs.Qxb6608579a
open Ieee

theorem sumR_append (f : Nat → Rat) (a : Nat) : ∀ b, sumR f (a + b) = sumR f a + sumR (fun i => f (a + i)) b
  | 0 => by show sumR f a = sumR f a + 0; grind
  | b + 1 => by
    show sumR f (a + b) + f (a + b) = sumR f a + (sumR (fun i => f (a + i)) b + f (a + b))
    rw [sumR_append f a b]
    grind

theorem sumR_ext (f g : Nat → Rat) (n : Nat) (h : ∀ i, i < n → f i = g i) : sumR f n = sumR g n := sumR_congr f g n h n (Nat.le_refl _)

/-- X is Y behind x. -/
def Joined (X x y : Nat → Nat) (na nb : Nat) : Prop := (∀ i, i < na → X i = x i) ∧ ∀ i, i < nb → X (na + i) = y i

theorem sum_joined {X x y : Nat → Nat} {na nb : Nat} (h : Joined X x y na nb) (F : Rat → Rat) :
    sumR (fun i => F (val (X i))) (na + nb) = sumR (fun i => F (val (x i))) na + sumR (fun i => F (val (y i))) nb := by
  rw [sumR_append, sumR_ext _ (fun i => F (val (x i))) na (fun i hi => by rw [h.1 i hi]), sumR_ext (fun i => F (val (X (na + i)))) (fun i => F (val (y i))) nb (fun i hi => by rw [h.2 i hi])]

theorem mean_joined {X x y : Nat → Nat} {na nb : Nat} (h : Joined X x y na nb) (ha : (1 : Rat) ≤ (na : Rat)) (hb : (1 : Rat) ≤ (nb : Rat)) :
    ((na + nb : Nat) : Rat) * meanR X (na + nb) = (na : Rat) * meanR x na + (nb : Rat) * meanR y nb := by
  have e : ((na + nb : Nat) : Rat) = (na : Rat) + (nb : Rat) := Rat.natCast_add na nb
  have h1 := meanR_mul (x := X) (n := na + nb) (by rw [e]; grind)
  have h2 := meanR_mul (x := x) ha
  have h3 := meanR_mul (x := y) hb
  have h4 : sumR (fun i => val (X i)) (na + nb) = sumR (fun i => val (x i)) na + sumR (fun i => val (y i)) nb := sum_joined h (fun v => v)
  grind

theorem var_split (x : Nat → Nat) (n : Nat) (h : (1 : Rat) ≤ (n : Rat)) : (n : Rat) * varR x n = sumR (fun i => val (x i) * val (x i)) n - (n : Rat) * (meanR x n * meanR x n) := by
  have hv := varR_mul (x := x) h
  have hm := meanR_mul (x := x) h
  have hd : sumR (devR x n) n = sumR (fun i => (val (x i) - meanR x n) * (val (x i) - meanR x n)) n := rfl
  rw [hd, sum_sq] at hv
  have : sumR (fun i => val (x i)) n * meanR x n = meanR x n * (n : Rat) * meanR x n := by rw [hm]
  grind

/-- The law of total variance. -/
theorem var_joined {X x y : Nat → Nat} {na nb : Nat} (h : Joined X x y na nb) (ha : (1 : Rat) ≤ (na : Rat)) (hb : (1 : Rat) ≤ (nb : Rat)) (G : Rat) (hG : G * ((na + nb : Nat) : Rat) = (na : Rat) * (nb : Rat)) :
    ((na + nb : Nat) : Rat) * varR X (na + nb) = (na : Rat) * varR x na + (nb : Rat) * varR y nb + G * (meanR x na - meanR y nb) * (meanR x na - meanR y nb) := by
  have e : ((na + nb : Nat) : Rat) = (na : Rat) + (nb : Rat) := Rat.natCast_add na nb
  have hm := mean_joined h ha hb
  have v1 := var_split X (na + nb) (by rw [e]; grind)
  have v2 := var_split x na ha
  have v3 := var_split y nb hb
  have h4 : sumR (fun i => val (X i) * val (X i)) (na + nb) = sumR (fun i => val (x i) * val (x i)) na + sumR (fun i => val (y i) * val (y i)) nb := sum_joined h (fun v => v * v)
  rw [h4] at v1
  rw [v1, v2, v3]
  rw [e] at hm hG ⊢
  generalize meanR X (na + nb) = m at *
  generalize meanR x na = p at *
  generalize meanR y nb = q at *
  generalize (na : Rat) = a at *
  generalize (nb : Rat) = b at *
  clear v1 v2 v3 h4 e
  have hn : a + b ≠ 0 := by grind
  -- times n
  have key : (a * (p * p) + b * (q * q) - (a + b) * (m * m)) * (a + b) = (G * (p - q) * (p - q)) * (a + b) := by
    have : (a + b) * (m * m) * (a + b) = (a * p + b * q) * (a * p + b * q) := by rw [← hm]; grind
    have k2 : (G * (p - q) * (p - q)) * (a + b) = a * b * ((p - q) * (p - q)) := by rw [← hG]; grind
    rw [k2]
    grind
  have key2 : a * (p * p) + b * (q * q) - (a + b) * (m * m) = G * (p - q) * (p - q) := by
    have := congrArg (· / (a + b)) key
    rwa [Rat.mul_div_cancel hn, Rat.mul_div_cancel hn] at this
  grind

/-! ### Products -/
theorem mul_abs_le {p q P Q : Rat} (p1 : -P ≤ p) (p2 : p ≤ P) (q1 : -Q ≤ q) (q2 : q ≤ Q) : -(P * Q) ≤ p * q ∧ p * q ≤ P * Q := by
  have a1 := Rat.mul_nonneg (show 0 ≤ P - p by grind) (show 0 ≤ Q + q by grind)
  have a2 := Rat.mul_nonneg (show 0 ≤ P + p by grind) (show 0 ≤ Q - q by grind)
  have a3 := Rat.mul_nonneg (show 0 ≤ P - p by grind) (show 0 ≤ Q - q by grind)
  have a4 := Rat.mul_nonneg (show 0 ≤ P + p by grind) (show 0 ≤ Q + q by grind)
  constructor <;> grind

theorem prod_diff {a y b z da db A Y : Rat} (h1 : a - y ≤ da) (h2 : y - a ≤ da) (h3 : b - z ≤ db) (h4 : z - b ≤ db) (b1 : -A ≤ b) (b2 : b ≤ A) (y1 : -Y ≤ y) (y2 : y ≤ Y) :
    a * b - y * z ≤ da * A + Y * db ∧ y * z - a * b ≤ da * A + Y * db := by
  obtain ⟨k1, k2⟩ := mul_abs_le (p := a - y) (q := b) (P := da) (Q := A) (by grind) h1 b1 b2
  obtain ⟨k3, k4⟩ := mul_abs_le (p := y) (q := b - z) (P := Y) (Q := db) y1 y2 (by grind) h3
  constructor <;> grind

/-- A mean times its number. -/
theorem meanN {x : Nat → Nat} {n : Nat} {M : Rat} (h : Within x n M) :
    double.mul (meanW x n) (floatOfInt .f64 (n : Int)) = some (fmul (meanW x n) (floatOfInt .f64 (n : Int))) ∧
      Near (fmul (meanW x n) (floatOfInt .f64 (n : Int))) ((n : Rat) * meanR x n) ((n : Rat) * ((2 * (n : Rat) + 8) * (eps * M))) := by
  obtain ⟨n1, n2⟩ := h.N
  obtain ⟨_, mf, ml, mh⟩ := mean_near h
  obtain ⟨b1, b2⟩ := meanR_le h
  obtain ⟨nf, nv⟩ := ofNat_exact n (by have := h.few; omega)
  obtain ⟨m1, m2, _⟩ := mul_near mf nf
  rw [nv] at m2
  have hM := h.ok.nonneg
  have eM : 0 ≤ eps * M := Rat.mul_nonneg (Rat.le_of_lt eps_pos) hM
  have c3 : (2 * (n : Rat) + 6) * (eps * M) ≤ M := by
    have a1 := Rat.mul_le_mul_of_nonneg_left n2 eM
    have a2 := Rat.mul_le_mul_of_nonneg_left (show (2 * 131072 + 6) * eps ≤ 1 by decide +kernel) hM
    grind
  have p100 : (2 * 131072 : Rat) ≤ p2 100 := by decide +kernel
  have hN : (0 : Rat) ≤ (n : Rat) := by grind
  obtain ⟨k1, k2⟩ := mul_abs_le (p := val (meanW x n)) (q := (n : Rat)) (P := 2 * M) (Q := (n : Rat)) (by grind) (by grind) (by grind) Rat.le_refl
  have l1 := Rat.mul_le_mul_of_nonneg_left ml hN
  have l2 := Rat.mul_le_mul_of_nonneg_left mh hN
  obtain ⟨⟨r1, r2, r3⟩, _⟩ := m2 (2 * (n : Rat) * M) (sc_M h.ok (by grind) (by grind)) (by grind) (by grind)
  refine ⟨m1, ⟨r1, ?_, ?_⟩⟩
  · clear m2; grind
  · clear m2; grind

/-- The number times the deviation's square. -/
theorem sdN {x : Nat → Nat} {n : Nat} {M : Rat} (h : Within x n M) :
    double.mul (floatOfInt .f64 (n : Int)) (sdW x n) = some (fmul (floatOfInt .f64 (n : Int)) (sdW x n)) ∧
    double.mul (fmul (floatOfInt .f64 (n : Int)) (sdW x n)) (sdW x n) = some (fmul (fmul (floatOfInt .f64 (n : Int)) (sdW x n)) (sdW x n)) ∧
      Near (fmul (fmul (floatOfInt .f64 (n : Int)) (sdW x n)) (sdW x n)) ((n : Rat) * varR x n) ((n : Rat) * ((30 * (n : Rat) + 131) * (eps * (M * M)))) := by
  obtain ⟨n1, n2⟩ := h.N
  obtain ⟨_, sf, s0, s3, sl, sh⟩ := sd_near h
  obtain ⟨nf, nv⟩ := ofNat_exact n (by have := h.few; omega)
  obtain ⟨m1, m2, _⟩ := mul_near nf sf
  rw [nv] at m2
  have hM := h.ok.nonneg
  have hMM := Rat.mul_nonneg hM hM
  have eM : 0 ≤ eps * M := Rat.mul_nonneg (Rat.le_of_lt eps_pos) hM
  have eMM : 0 ≤ eps * (M * M) := Rat.mul_nonneg (Rat.le_of_lt eps_pos) hMM
  have p100 : (10 * 131072 : Rat) ≤ p2 100 := by decide +kernel
  have hN : (0 : Rat) ≤ (n : Rat) := by grind
  generalize hs : val (sdW x n) = s at *
  have k1 := Rat.mul_le_mul_of_nonneg_left s3 hN
  have k0 := Rat.mul_nonneg hN s0
  obtain ⟨⟨r1, r2, r3⟩, _⟩ := m2 (3 * (n : Rat) * M) (sc_M h.ok (by grind) (by grind)) (by grind) (by grind)
  obtain ⟨q1, q2, _⟩ := mul_near r1 sf
  rw [hs] at q2
  generalize hA : val (fmul (floatOfInt .f64 (n : Int)) (sdW x n)) = A at *
  clear m2
  obtain ⟨d1, d2⟩ := prod_diff (a := A) (y := (n : Rat) * s) (b := s) (z := s) (da := eps * (3 * (n : Rat) * M)) (db := 0) (A := 3 * M) (Y := 3 * (n : Rat) * M) (by grind) (by grind) (by grind) (by grind) (by grind) s3 (by grind) (by grind)
  have t1 := Rat.mul_le_mul_of_nonneg_left sl hN
  have t2 := Rat.mul_le_mul_of_nonneg_left sh hN
  have e1 : eps ≤ 1 / 16 := by decide +kernel
  have e2 := Rat.mul_le_mul_of_nonneg_left e1 (Rat.mul_nonneg hN hMM)
  obtain ⟨z1, z2⟩ := sq_le (a := s) (A := 3 * M) (by grind) s3
  have z3 := Rat.mul_le_mul_of_nonneg_left z2 hN
  have z4 := Rat.mul_nonneg hN z1
  have ne := Rat.mul_nonneg hN eMM
  have u1 : -(10 * (n : Rat) * (M * M)) ≤ A * s := by clear q2 t1 t2 sl sh; grind
  have u2 : A * s ≤ 10 * (n : Rat) * (M * M) := by clear q2 t1 t2 sl sh; grind
  obtain ⟨⟨v1, v2, v3⟩, _⟩ := q2 (10 * (n : Rat) * (M * M)) (sc_MM h.ok (by grind) (by grind)) u1 u2
  clear q2
  refine ⟨m1, q1, ⟨v1, ?_, ?_⟩⟩
  · clear u1 u2 z1 z2 z3 z4; grind
  · clear u1 u2 z1 z2 z3 z4; grind
end Go.Proofs.Qxb6608579a
