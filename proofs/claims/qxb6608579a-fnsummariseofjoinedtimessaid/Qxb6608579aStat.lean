/- Mean and standard deviation of doubles, within rounding. -/
import Derived.Test.Qxb6608579aAcc
namespace Go.Proofs.Qxb6608579a
open Ieee

theorem le_cancel {a b N : Rat} (hN : 0 < N) (h : a * N ≤ b * N) : a ≤ b := Rat.le_of_mul_le_mul_right h hN

theorem sumR_close (f g : Nat → Rat) (n : Nat) (d : Rat) (h : ∀ i, i < n → f i - g i ≤ d ∧ g i - f i ≤ d) : ∀ k, k ≤ n → sumR f k - sumR g k ≤ (k : Rat) * d ∧ sumR g k - sumR f k ≤ (k : Rat) * d
  | 0, _ => by
    have : ((0 : Nat) : Rat) = 0 := rfl
    rw [this]
    unfold sumR
    constructor <;> grind
  | k + 1, hk => by
    obtain ⟨a1, a2⟩ := sumR_close f g n d h k (by omega)
    obtain ⟨b1, b2⟩ := h k (by omega)
    have : ((k + 1 : Nat) : Rat) = (k : Rat) + 1 := by rw [Rat.natCast_add]; rfl
    rw [this]
    unfold sumR
    constructor <;> grind

def meanW (x : Nat → Nat) (n : Nat) : Nat := fdiv (accTo x n) (floatOfInt .f64 (n : Int))
def meanR (x : Nat → Nat) (n : Nat) : Rat := sumR (fun i => val (x i)) n / (n : Rat)

/-- The words x 0 .. x (n - 1) are finite, their numbers at most M in size. -/
structure Within (x : Nat → Nat) (n : Nat) (M : Rat) : Prop where
  ok : MOk M
  pos : 1 ≤ n
  few : n ≤ 131072
  all : ∀ i, i < n → Fin (x i) ∧ -M ≤ val (x i) ∧ val (x i) ≤ M

theorem Within.N {x : Nat → Nat} {n : Nat} {M : Rat} (h : Within x n M) : (1 : Rat) ≤ (n : Rat) ∧ (n : Rat) ≤ 131072 :=
  ⟨Rat.natCast_le_natCast.2 h.pos, Rat.natCast_le_natCast.2 h.few⟩

theorem ofNat_exact (n : Nat) (h : n ≤ 4503599627370496) : Fin (floatOfInt .f64 (n : Int)) ∧ val (floatOfInt .f64 (n : Int)) = (n : Rat) := by
  obtain ⟨f, g⟩ := ofInt_exact (n : Int) (by omega) (by omega)
  exact ⟨f, by rw [g, Rat.intCast_natCast]⟩

theorem meanR_mul {x : Nat → Nat} {n : Nat} (h : (1 : Rat) ≤ (n : Rat)) : meanR x n * (n : Rat) = sumR (fun i => val (x i)) n := by
  unfold meanR
  have : (n : Rat) ≠ 0 := by grind
  grind

theorem meanR_le {x : Nat → Nat} {n : Nat} {M : Rat} (h : Within x n M) : -M ≤ meanR x n ∧ meanR x n ≤ M := by
  obtain ⟨n1, n2⟩ := h.N
  obtain ⟨s1, s2⟩ := sumR_le (fun i => val (x i)) n M (fun i hi => (h.all i hi).2) n (Nat.le_refl _)
  have hm := meanR_mul (x := x) n1
  constructor
  · exact le_cancel (N := (n : Rat)) (by grind) (by grind)
  · exact le_cancel (N := (n : Rat)) (by grind) (by grind)

/-- The sums on the way. -/
theorem acc_mean {x : Nat → Nat} {n : Nat} {M : Rat} (h : Within x n M) (k : Nat) (hk : k ≤ n) :
    Near (accTo x k) (sumR (fun i => val (x i)) k) ((k : Rat) * (2 * (eps * ((n : Rat) * M)))) := by
  obtain ⟨n1, n2⟩ := h.N
  refine (acc_near x n M (by have := h.few; omega) h.ok.nonneg (fun _ => ?_) (fun i hi => h.all i hi) k hk).1
  have p100 : 2 * 131072 ≤ p2 100 := by decide +kernel
  have e : 2 * ((n : Rat) * M) = (2 * (n : Rat)) * M := by grind
  rw [e]
  exact sc_M h.ok (by grind) (by grind)

theorem mean_near {x : Nat → Nat} {n : Nat} {M : Rat} (h : Within x n M) :
    double.div (accTo x n) (floatOfInt .f64 (n : Int)) = some (meanW x n) ∧ Near (meanW x n) (meanR x n) ((2 * (n : Rat) + 6) * (eps * M)) := by
  obtain ⟨n1, n2⟩ := h.N
  obtain ⟨f, lo, hi⟩ := acc_mean h n (Nat.le_refl _)
  obtain ⟨nf, nv⟩ := ofNat_exact n (by have := h.few; omega)
  obtain ⟨d1, d2⟩ := div_near f nf (by rw [nv]; grind)
  have hm := meanR_mul (x := x) n1
  obtain ⟨m1, m2⟩ := meanR_le h
  have hM := h.ok.nonneg
  have hN : (0 : Rat) < (n : Rat) := by grind
  obtain ⟨E, hE⟩ : ∃ E : Rat, E = val (accTo x n) / (n : Rat) := ⟨_, rfl⟩
  have hE2 : val (accTo x n) = E * (n : Rat) := by
    rw [hE]
    have : (n : Rat) ≠ 0 := by grind
    grind
  have eM : 0 ≤ eps * M := Rat.mul_nonneg (Rat.le_of_lt eps_pos) hM
  have c1 : E ≤ meanR x n + 2 * (eps * ((n : Rat) * M)) := le_cancel hN (by grind)
  have c2 : meanR x n - 2 * (eps * ((n : Rat) * M)) ≤ E := le_cancel hN (by grind)
  have c3 : 2 * (eps * ((n : Rat) * M)) ≤ M := by
    have a1 := Rat.mul_le_mul_of_nonneg_left n2 eM
    have a2 := Rat.mul_le_mul_of_nonneg_left (show 2 * 131072 * eps ≤ 1 by decide +kernel) hM
    grind
  have p100 : (4 : Rat) ≤ p2 100 := by decide +kernel
  have hsc : Sc (2 * (2 * M)) := by
    rw [show 2 * (2 * M) = 4 * M by grind]
    exact sc_M (c := 4) h.ok (by decide) p100
  obtain ⟨⟨r1, r2, r3⟩, _⟩ := d2 (2 * M) E hsc (by rw [nv]; exact hE2) (by grind) (by grind)
  refine ⟨d1, ⟨r1, ?_, ?_⟩⟩
  · show _ ≤ val (fdiv _ _); grind
  · show val (fdiv _ _) ≤ _; grind

/-! ### The squares -/
def sqT (x : Nat → Nat) (m k : Nat) : Nat := fmul (fsub (x k) m) (fsub (x k) m)
def varW (x : Nat → Nat) (n : Nat) : Nat := fdiv (accTo (sqT x (meanW x n)) n) (floatOfInt .f64 (n : Int))
def sdW (x : Nat → Nat) (n : Nat) : Nat := fsqrt (varW x n)
def devR (x : Nat → Nat) (n : Nat) (i : Nat) : Rat := (val (x i) - meanR x n) * (val (x i) - meanR x n)
def varR (x : Nat → Nat) (n : Nat) : Rat := sumR (devR x n) n / (n : Rat)

/-- |a a - y y| for |a - y| ≤ d, |a| ≤ A, |y| ≤ Y. -/
theorem sq_diff (a y d A Y : Rat) (h1 : a - y ≤ d) (h2 : y - a ≤ d) (a1 : -A ≤ a) (a2 : a ≤ A) (y1 : -Y ≤ y) (y2 : y ≤ Y) :
    a * a - y * y ≤ d * (A + Y) ∧ y * y - a * a ≤ d * (A + Y) := by
  have hd : 0 ≤ d := by grind
  -- (a - y) (a + y)
  have b1 : 0 ≤ d - (a - y) := by grind
  have b2 : 0 ≤ d - (y - a) := by grind
  have c1 : 0 ≤ (A + Y) - (a + y) := by grind
  have c2 : 0 ≤ (A + Y) + (a + y) := by grind
  have m1 := Rat.mul_nonneg b1 c1
  have m2 := Rat.mul_nonneg b1 c2
  have m3 := Rat.mul_nonneg b2 c1
  have m4 := Rat.mul_nonneg b2 c2
  constructor <;> grind

theorem sq_le {a A : Rat} (h1 : -A ≤ a) (h2 : a ≤ A) : 0 ≤ a * a ∧ a * a ≤ A * A := by
  constructor
  · rcases (show 0 ≤ a ∨ a ≤ 0 by grind) with h | h
    · exact Rat.mul_nonneg h h
    · have := Rat.mul_nonneg (show 0 ≤ -a by grind) (show 0 ≤ -a by grind)
      grind
  · have m1 := Rat.mul_nonneg (show 0 ≤ A - a by grind) (show 0 ≤ A + a by grind)
    grind

/-- One term of the squares. -/
theorem sqT_near {x : Nat → Nat} {n : Nat} {M : Rat} (h : Within x n M) (k : Nat) (hk : k < n) :
    double.sub (x k) (meanW x n) = some (fsub (x k) (meanW x n)) ∧ double.mul (fsub (x k) (meanW x n)) (fsub (x k) (meanW x n)) = some (sqT x (meanW x n) k) ∧
      Near (sqT x (meanW x n) k) (devR x n k) ((10 * (n : Rat) + 54) * (eps * (M * M))) ∧ 0 ≤ val (sqT x (meanW x n) k) ∧ val (sqT x (meanW x n) k) ≤ 10 * (M * M) := by
  obtain ⟨n1, n2⟩ := h.N
  obtain ⟨xf, x1, x2⟩ := h.all k hk
  obtain ⟨_, mf, mlo, mhi⟩ := mean_near h
  obtain ⟨m1, m2⟩ := meanR_le h
  have hM := h.ok.nonneg
  have eM : 0 ≤ eps * M := Rat.mul_nonneg (Rat.le_of_lt eps_pos) hM
  have hMM := Rat.mul_nonneg hM hM
  obtain ⟨s1, s2⟩ := sub_near xf mf
  have dl : (2 * (n : Rat) + 6) * (eps * M) + 3 * (eps * M) ≤ M := by
    have a1 := Rat.mul_le_mul_of_nonneg_left n2 eM
    have a2 := Rat.mul_le_mul_of_nonneg_left (show (2 * 131072 + 9) * eps ≤ 1 by decide +kernel) hM
    grind
  have p100 : (100 : Rat) ≤ p2 100 := by decide +kernel
  have nne : 0 ≤ (2 * (n : Rat) + 6) * (eps * M) := Rat.mul_nonneg (by grind) eM
  obtain ⟨⟨df, d1, d2⟩, _⟩ := s2 (3 * M) (sc_M h.ok (by decide) (by grind)) (by grind) (by grind)
  obtain ⟨t1, t2, _⟩ := mul_near df df
  obtain ⟨y, hy⟩ : ∃ y, y = val (x k) - meanR x n := ⟨_, rfl⟩
  obtain ⟨a, ha⟩ : ∃ a, a = val (fsub (x k) (meanW x n)) := ⟨_, rfl⟩
  rw [← ha] at d1 d2 t2
  have e1 : a - y ≤ (2 * (n : Rat) + 9) * (eps * M) := by grind
  have e2 : y - a ≤ (2 * (n : Rat) + 9) * (eps * M) := by grind
  have y1 : -(2 * M) ≤ y := by grind
  have y2 : y ≤ 2 * M := by grind
  have a1 : -(3 * M) ≤ a := by grind
  have a2 : a ≤ 3 * M := by grind
  obtain ⟨q1, q2⟩ := sq_diff a y _ (3 * M) (2 * M) e1 e2 a1 a2 y1 y2
  obtain ⟨z1, z2⟩ := sq_le a1 a2
  obtain ⟨⟨pf, p1, p2'⟩, p3⟩ := t2 (9 * (M * M)) (sc_MM h.ok (by decide) (by grind)) (by grind) (by grind)
  have eMM : eps * (9 * (M * M)) ≤ M * M := by
    have := Rat.mul_le_mul_of_nonneg_left (show 9 * eps ≤ 1 by decide +kernel) hMM
    grind
  have hdev : devR x n k = y * y := by unfold devR; rw [← hy]
  refine ⟨s1, t1, ⟨pf, ?_, ?_⟩, ?_, ?_⟩
  · show _ ≤ val (fmul _ _)
    rw [hdev]
    grind
  · show val (fmul _ _) ≤ _
    rw [hdev]
    grind
  · exact p3 z1
  · show val (fmul _ _) ≤ _
    grind

theorem varR_mul {x : Nat → Nat} {n : Nat} (h : (1 : Rat) ≤ (n : Rat)) : varR x n * (n : Rat) = sumR (devR x n) n := by
  unfold varR
  have : (n : Rat) ≠ 0 := by grind
  grind

theorem devR_le {x : Nat → Nat} {n : Nat} {M : Rat} (h : Within x n M) (i : Nat) (hi : i < n) : 0 ≤ devR x n i ∧ devR x n i ≤ 4 * (M * M) := by
  obtain ⟨xf, x1, x2⟩ := h.all i hi
  obtain ⟨m1, m2⟩ := meanR_le h
  obtain ⟨z1, z2⟩ := sq_le (a := val (x i) - meanR x n) (A := 2 * M) (by grind) (by grind)
  unfold devR
  exact ⟨z1, by grind⟩

theorem varR_le {x : Nat → Nat} {n : Nat} {M : Rat} (h : Within x n M) : varR x n ≤ 4 * (M * M) := by
  obtain ⟨n1, n2⟩ := h.N
  have hMM := Rat.mul_nonneg h.ok.nonneg h.ok.nonneg
  obtain ⟨s1, s2⟩ := sumR_le (devR x n) n (4 * (M * M)) (fun i hi => by
    obtain ⟨z1, z2⟩ := devR_le h i hi
    exact ⟨by grind, z2⟩) n (Nat.le_refl _)
  have hm := varR_mul (x := x) n1
  exact le_cancel (N := (n : Rat)) (by grind) (by grind)

theorem acc_sq {x : Nat → Nat} {n : Nat} {M : Rat} (h : Within x n M) (k : Nat) (hk : k ≤ n) :
    Near (accTo (sqT x (meanW x n)) k) (sumR (fun i => val (sqT x (meanW x n) i)) k) ((k : Rat) * (2 * (eps * ((n : Rat) * (10 * (M * M)))))) ∧ 0 ≤ val (accTo (sqT x (meanW x n)) k) := by
  obtain ⟨n1, n2⟩ := h.N
  have hMM := Rat.mul_nonneg h.ok.nonneg h.ok.nonneg
  have := acc_near (sqT x (meanW x n)) n (10 * (M * M)) (by have := h.few; omega) (by grind) (fun _ => by
    have p100 : 20 * 131072 ≤ p2 100 := by decide +kernel
    have e : 2 * ((n : Rat) * (10 * (M * M))) = (20 * (n : Rat)) * (M * M) := by grind
    rw [e]
    exact sc_MM h.ok (by grind) (by grind)) (fun i hi => by
    obtain ⟨_, _, a, b, c⟩ := sqT_near h i hi
    exact ⟨a.fin, by grind, c⟩) k hk
  exact ⟨this.1, this.2 (fun i hi => (sqT_near h i hi).2.2.2.1)⟩

theorem var_near {x : Nat → Nat} {n : Nat} {M : Rat} (h : Within x n M) :
    double.div (accTo (sqT x (meanW x n)) n) (floatOfInt .f64 (n : Int)) = some (varW x n) ∧ Near (varW x n) (varR x n) ((30 * (n : Rat) + 87) * (eps * (M * M))) ∧ 0 ≤ val (varW x n) ∧ val (varW x n) ≤ 5 * (M * M) := by
  obtain ⟨n1, n2⟩ := h.N
  obtain ⟨⟨f, lo, hi⟩, q0⟩ := acc_sq h n (Nat.le_refl _)
  obtain ⟨nf, nv⟩ := ofNat_exact n (by have := h.few; omega)
  obtain ⟨d1, d2⟩ := div_near f nf (by rw [nv]; grind)
  have hMM := Rat.mul_nonneg h.ok.nonneg h.ok.nonneg
  have eMM : 0 ≤ eps * (M * M) := Rat.mul_nonneg (Rat.le_of_lt eps_pos) hMM
  have hN : (0 : Rat) < (n : Rat) := by grind
  obtain ⟨c1, c2⟩ := sumR_close (fun i => val (sqT x (meanW x n) i)) (devR x n) n ((10 * (n : Rat) + 54) * (eps * (M * M))) (fun i hi => by
    obtain ⟨_, _, a, _, _⟩ := sqT_near h i hi
    have := a.lo
    have := a.hi
    constructor <;> grind) n (Nat.le_refl _)
  have hm := varR_mul (x := x) n1
  have hv := varR_le h
  generalize hq : val (accTo (sqT x (meanW x n)) n) = q at *
  generalize sumR (fun i => val (sqT x (meanW x n) i)) n = Sp at *
  generalize sumR (devR x n) n = Sd at *
  obtain ⟨E, hE⟩ : ∃ E : Rat, E = q / (n : Rat) := ⟨_, rfl⟩
  have hE2 : q = E * (n : Rat) := by
    rw [hE]
    have : (n : Rat) ≠ 0 := by grind
    grind
  have b1 : E ≤ varR x n + (30 * (n : Rat) + 54) * (eps * (M * M)) := le_cancel hN (by grind)
  have b2 : varR x n - (30 * (n : Rat) + 54) * (eps * (M * M)) ≤ E := le_cancel hN (by grind)
  have b3 : (30 * (n : Rat) + 87) * (eps * (M * M)) ≤ M * M := by
    have a1 := Rat.mul_le_mul_of_nonneg_left n2 eMM
    have a2 := Rat.mul_le_mul_of_nonneg_left (show (30 * 131072 + 87) * eps ≤ 1 by decide +kernel) hMM
    grind
  have b4 : 0 ≤ E := le_cancel hN (by grind)
  have p100 : (22 : Rat) ≤ p2 100 := by decide +kernel
  have hsc : Sc (2 * (11 * (M * M))) := by
    rw [show 2 * (11 * (M * M)) = 22 * (M * M) by grind]
    exact sc_MM (c := 22) h.ok (by decide) p100
  obtain ⟨⟨r1, r2, r3⟩, r4⟩ := d2 (11 * (M * M)) E hsc (by rw [nv]; exact hE2) (by grind) (by grind)
  refine ⟨d1, ⟨r1, ?_, ?_⟩, r4 b4, ?_⟩
  · show _ ≤ val (fdiv _ _); grind
  · show val (fdiv _ _) ≤ _; grind
  · show val (fdiv _ _) ≤ _; grind

/-- The standard deviation, squared, against the variance. -/
theorem sd_near {x : Nat → Nat} {n : Nat} {M : Rat} (h : Within x n M) :
    double.sqrt (varW x n) = some (sdW x n) ∧ Fin (sdW x n) ∧ 0 ≤ val (sdW x n) ∧ val (sdW x n) ≤ 3 * M ∧
      val (sdW x n) * val (sdW x n) ≤ varR x n + (30 * (n : Rat) + 112) * (eps * (M * M)) ∧ varR x n ≤ val (sdW x n) * val (sdW x n) + (30 * (n : Rat) + 112) * (eps * (M * M)) := by
  obtain ⟨_, ⟨vf, v1, v2⟩, v3, v4⟩ := var_near h
  have hM := h.ok.nonneg
  have hMM := Rat.mul_nonneg hM hM
  have hsc := sc_MM (c := 5) h.ok (by decide) (by decide +kernel)
  obtain ⟨s1, s2, s3, s4, s5⟩ := sqrt_near vf v3 (by have := hsc.2; grind)
  have ev := Rat.mul_le_mul_of_nonneg_left v4 (Rat.le_of_lt eps_pos)
  have e25 := Rat.mul_le_mul_of_nonneg_left (show 25 * eps ≤ 1 by decide +kernel) hMM
  refine ⟨s1, s2, s3, ?_, ?_, ?_⟩
  · show val (fsqrt _) ≤ _
    rcases (show val (fsqrt (varW x n)) ≤ 3 * M ∨ 3 * M < val (fsqrt (varW x n)) by grind) with h' | h'
    · exact h'
    · exfalso
      have a1 := Rat.mul_lt_mul_of_pos_left h' (show 0 < val (fsqrt (varW x n)) by grind)
      have a2 := Rat.mul_le_mul_of_nonneg_left (Rat.le_of_lt h') (show 0 ≤ 3 * M by grind)
      grind
  · show val (fsqrt _) * val (fsqrt _) ≤ _
    grind
  · show _ ≤ val (fsqrt _) * val (fsqrt _) + _
    grind
end Go.Proofs.Qxb6608579a
