/- The plain law of FnSummariseWholeAnswer: the squared differences of all pairs. -/
import Derived.Test.Qxb6608579aWhole
namespace Go.Proofs.Qxb6608579a
open Ieee

/-! ### The identities -/
theorem sum_sq (f : Nat → Rat) (c : Rat) : ∀ k, sumR (fun i => (f i - c) * (f i - c)) k = sumR (fun i => f i * f i) k - 2 * c * sumR f k + (k : Rat) * (c * c)
  | 0 => by have : ((0 : Nat) : Rat) = 0 := rfl; rw [this]; show (0 : Rat) = 0 - 2 * c * 0 + 0 * (c * c); grind
  | k + 1 => by
    show sumR (fun i => (f i - c) * (f i - c)) k + (f k - c) * (f k - c) = (sumR (fun i => f i * f i) k + f k * f k) - 2 * c * (sumR f k + f k) + ((k + 1 : Nat) : Rat) * (c * c)
    have : ((k + 1 : Nat) : Rat) = (k : Rat) + 1 := by rw [Rat.natCast_add]; rfl
    rw [sum_sq f c k, this]
    grind

theorem sum_sq' (f : Nat → Rat) (c : Rat) (k : Nat) : sumR (fun i => (c - f i) * (c - f i)) k = sumR (fun i => f i * f i) k - 2 * c * sumR f k + (k : Rat) * (c * c) := by
  rw [← sum_sq f c k]
  exact sumR_congr _ _ k (fun i _ => by grind) k (Nat.le_refl _)

theorem sum_pairs (f : Nat → Rat) (n : Nat) : ∀ k, sumR (fun i => sumR (fun j => (f i - f j) * (f i - f j)) n) k = (k : Rat) * sumR (fun i => f i * f i) n - 2 * sumR f k * sumR f n + (n : Rat) * sumR (fun i => f i * f i) k
  | 0 => by have : ((0 : Nat) : Rat) = 0 := rfl; rw [this]; show (0 : Rat) = 0 * _ - 2 * 0 * _ + _ * 0; grind
  | k + 1 => by
    show sumR (fun i => sumR (fun j => (f i - f j) * (f i - f j)) n) k + sumR (fun j => (f k - f j) * (f k - f j)) n = ((k + 1 : Nat) : Rat) * sumR (fun i => f i * f i) n - 2 * (sumR f k + f k) * sumR f n + (n : Rat) * (sumR (fun i => f i * f i) k + f k * f k)
    have : ((k + 1 : Nat) : Rat) = (k : Rat) + 1 := by rw [Rat.natCast_add]; rfl
    rw [sum_pairs f n k, sum_sq', this]
    grind

/-- The sum over all pairs is 2 n n times the variance. -/
theorem pairs_var (x : Nat → Nat) (n : Nat) (h : (1 : Rat) ≤ (n : Rat)) : sumR (fun i => sumR (fun j => (val (x i) - val (x j)) * (val (x i) - val (x j))) n) n = 2 * ((n : Rat) * (n : Rat)) * varR x n := by
  have hv := varR_mul (x := x) h
  have hm := meanR_mul (x := x) h
  have hd : sumR (devR x n) n = sumR (fun i => (val (x i) - meanR x n) * (val (x i) - meanR x n)) n := rfl
  rw [hd, sum_sq] at hv
  rw [sum_pairs (fun i => val (x i))]
  rw [← hm] at hv ⊢
  generalize sumR (fun i => val (x i) * val (x i)) n = Q at *
  generalize varR x n = V at *
  generalize meanR x n = m at *
  generalize (n : Rat) = N at *
  have e : 2 * (N * N) * V = 2 * N * (V * N) := by grind
  rw [e, hv]
  grind

/-! ### The words -/
def pairT (x : Nat → Nat) (i j : Nat) : Nat := fmul (fsub (x i) (x j)) (fsub (x i) (x j))
def rowW (x : Nat → Nat) (n i : Nat) : Nat := accTo (pairT x i) n
def totW (x : Nat → Nat) (n : Nat) : Nat := accTo (rowW x n) n
abbrev W2 : Nat := 4611686018427387904
def denW (n : Nat) : Nat := fmul (fmul W2 (floatOfInt .f64 (n : Int))) (floatOfInt .f64 (n : Int))
def wantVar (x : Nat → Nat) (n : Nat) : Nat := fdiv (totW x n) (denW n)

theorem read_W2 : double.read W2 = .number false 4503599627370496 (-51) := by decide +kernel
theorem fin_W2 : Fin W2 := ⟨_, _, _, read_W2⟩
theorem val_W2 : val W2 = 2 := by rw [val_of read_W2]; decide +kernel

def pairR (x : Nat → Nat) (i j : Nat) : Rat := (val (x i) - val (x j)) * (val (x i) - val (x j))

theorem pair_near {x : Nat → Nat} {n : Nat} {M : Rat} (h : Within x n M) (i j : Nat) (hi : i < n) (hj : j < n) :
    double.sub (x i) (x j) = some (fsub (x i) (x j)) ∧ double.mul (fsub (x i) (x j)) (fsub (x i) (x j)) = some (pairT x i j) ∧ Fin (fsub (x i) (x j)) ∧
      Near (pairT x i j) (pairR x i j) (19 * (eps * (M * M))) ∧ 0 ≤ val (pairT x i j) ∧ val (pairT x i j) ≤ 10 * (M * M) := by
  obtain ⟨xf, x1, x2⟩ := h.all i hi
  obtain ⟨yf, y1, y2⟩ := h.all j hj
  have hM := h.ok.nonneg
  have eM : 0 ≤ eps * M := Rat.mul_nonneg (Rat.le_of_lt eps_pos) hM
  have hMM := Rat.mul_nonneg hM hM
  obtain ⟨s1, s2⟩ := sub_near xf yf
  have e1 := Rat.mul_le_mul_of_nonneg_left (show 9 * eps ≤ 1 by decide +kernel) hM
  have e2 := Rat.mul_le_mul_of_nonneg_left (show 9 * eps ≤ 1 by decide +kernel) hMM
  have p100 : (100 : Rat) ≤ p2 100 := by decide +kernel
  obtain ⟨⟨df, d1, d2⟩, _⟩ := s2 (2 * M) (sc_M h.ok (by decide) (by grind)) (by grind) (by grind)
  obtain ⟨t1, t2, _⟩ := mul_near df df
  obtain ⟨y, hy⟩ : ∃ y, y = val (x i) - val (x j) := ⟨_, rfl⟩
  obtain ⟨a, ha⟩ : ∃ a, a = val (fsub (x i) (x j)) := ⟨_, rfl⟩
  rw [← ha] at d1 d2 t2
  rw [← hy] at d1 d2
  have a1 : -(3 * M) ≤ a := by grind
  have a2 : a ≤ 3 * M := by grind
  obtain ⟨q1, q2⟩ := sq_diff a y (eps * (2 * M)) (3 * M) (2 * M) (by grind) (by grind) a1 a2 (by grind) (by grind)
  obtain ⟨z1, z2⟩ := sq_le a1 a2
  obtain ⟨⟨pf, p1, p2'⟩, p3⟩ := t2 (9 * (M * M)) (sc_MM h.ok (by decide) (by grind)) (by grind) (by grind)
  have hp : pairR x i j = y * y := by unfold pairR; rw [← hy]
  refine ⟨s1, t1, df, ⟨pf, ?_, ?_⟩, ?_, ?_⟩
  · show _ ≤ val (fmul _ _)
    rw [hp]
    grind
  · show val (fmul _ _) ≤ _
    rw [hp]
    grind
  · exact p3 z1
  · show val (fmul _ _) ≤ _
    grind

theorem acc_row {x : Nat → Nat} {n : Nat} {M : Rat} (h : Within x n M) (i : Nat) (hi : i < n) (k : Nat) (hk : k ≤ n) :
    Near (accTo (pairT x i) k) (sumR (fun j => val (pairT x i j)) k) ((k : Rat) * (2 * (eps * ((n : Rat) * (10 * (M * M)))))) ∧ 0 ≤ val (accTo (pairT x i) k) := by
  obtain ⟨n1, n2⟩ := h.N
  have hMM := Rat.mul_nonneg h.ok.nonneg h.ok.nonneg
  have := acc_near (pairT x i) n (10 * (M * M)) (by have := h.few; omega) (by grind) (fun _ => by
    have p100 : 20 * 131072 ≤ p2 100 := by decide +kernel
    have e : 2 * ((n : Rat) * (10 * (M * M))) = (20 * (n : Rat)) * (M * M) := by grind
    rw [e]
    exact sc_MM h.ok (by grind) (by grind)) (fun j hj => by
    obtain ⟨_, _, _, a, b, c⟩ := pair_near h i j hi hj
    exact ⟨a.fin, by grind, c⟩) k hk
  exact ⟨this.1, this.2 (fun j hj => (pair_near h i j hi hj).2.2.2.2.1)⟩

theorem row_near {x : Nat → Nat} {n : Nat} {M : Rat} (h : Within x n M) (i : Nat) (hi : i < n) :
    Near (rowW x n i) (sumR (pairR x i) n) ((n : Rat) * ((20 * (n : Rat) + 19) * (eps * (M * M)))) ∧ 0 ≤ val (rowW x n i) ∧ val (rowW x n i) ≤ 11 * ((n : Rat) * (M * M)) := by
  obtain ⟨n1, n2⟩ := h.N
  obtain ⟨⟨f, lo, hi'⟩, q0⟩ := acc_row h i hi n (Nat.le_refl _)
  have hMM := Rat.mul_nonneg h.ok.nonneg h.ok.nonneg
  have eMM : 0 ≤ eps * (M * M) := Rat.mul_nonneg (Rat.le_of_lt eps_pos) hMM
  have hN : (0 : Rat) ≤ (n : Rat) := by grind
  obtain ⟨c1, c2⟩ := sumR_close (fun j => val (pairT x i j)) (pairR x i) n (19 * (eps * (M * M))) (fun j hj => by
    obtain ⟨_, _, _, a, _, _⟩ := pair_near h i j hi hj
    have := a.lo
    have := a.hi
    constructor <;> grind) n (Nat.le_refl _)
  obtain ⟨u1, u2⟩ := sumR_le (fun j => val (pairT x i j)) n (10 * (M * M)) (fun j hj => by
    obtain ⟨_, _, _, _, a, b⟩ := pair_near h i j hi hj
    exact ⟨by grind, b⟩) n (Nat.le_refl _)
  have nMM := Rat.mul_nonneg hN hMM
  have b3 : (n : Rat) * (2 * (eps * ((n : Rat) * (10 * (M * M))))) ≤ (n : Rat) * (M * M) := by
    have a1 := Rat.mul_le_mul_of_nonneg_left n2 (Rat.mul_nonneg (Rat.le_of_lt eps_pos) nMM)
    have a2 := Rat.mul_le_mul_of_nonneg_left (show 20 * 131072 * eps ≤ 1 by decide +kernel) nMM
    grind
  refine ⟨⟨f, ?_, ?_⟩, q0, ?_⟩
  · show _ ≤ val (accTo (pairT x i) n); grind
  · show val (accTo (pairT x i) n) ≤ _; grind
  · show val (accTo (pairT x i) n) ≤ _; grind

theorem acc_tot {x : Nat → Nat} {n : Nat} {M : Rat} (h : Within x n M) (k : Nat) (hk : k ≤ n) :
    Near (accTo (rowW x n) k) (sumR (fun i => val (rowW x n i)) k) ((k : Rat) * (2 * (eps * ((n : Rat) * (11 * ((n : Rat) * (M * M))))))) ∧ 0 ≤ val (accTo (rowW x n) k) := by
  obtain ⟨n1, n2⟩ := h.N
  have hMM := Rat.mul_nonneg h.ok.nonneg h.ok.nonneg
  have hN : (0 : Rat) ≤ (n : Rat) := by grind
  have nMM := Rat.mul_nonneg hN hMM
  have := acc_near (rowW x n) n (11 * ((n : Rat) * (M * M))) (by have := h.few; omega) (by grind) (fun _ => by
    have e : 2 * ((n : Rat) * (11 * ((n : Rat) * (M * M)))) = (22 * ((n : Rat) * (n : Rat))) * (M * M) := by grind
    rw [e]
    have a1 := Rat.mul_le_mul_of_nonneg_left n2 hN
    have a2 := Rat.mul_le_mul_of_nonneg_left n1 hN
    have p100 : 22 * (131072 * 131072) ≤ p2 100 := by decide +kernel
    exact sc_MM h.ok (by grind) (by grind)) (fun i hi => by
    obtain ⟨a, b, c⟩ := row_near h i hi
    exact ⟨a.fin, by grind, c⟩) k hk
  exact ⟨this.1, this.2 (fun i hi => (row_near h i hi).2.1)⟩

theorem den_val (n : Nat) (h : n ≤ 131072) : double.mul W2 (floatOfInt .f64 (n : Int)) = some (fmul W2 (floatOfInt .f64 (n : Int))) ∧
    double.mul (fmul W2 (floatOfInt .f64 (n : Int))) (floatOfInt .f64 (n : Int)) = some (denW n) ∧ Fin (denW n) ∧ val (denW n) = 2 * ((n : Rat) * (n : Rat)) := by
  obtain ⟨nf, nv⟩ := ofNat_exact n (by omega)
  obtain ⟨a1, _, a3⟩ := mul_near fin_W2 nf
  obtain ⟨b1, b2⟩ := a3 (2 * n) (by omega) (by rw [val_W2, nv, Rat.natCast_mul]; rfl)
  obtain ⟨c1, _, c3⟩ := mul_near b1 nf
  have hnn : n * n ≤ 131072 * 131072 := Nat.mul_le_mul h h
  obtain ⟨d1, d2⟩ := c3 (2 * n * n) (by rw [Nat.mul_assoc]; omega) (by rw [b2, nv, ← Rat.natCast_mul])
  refine ⟨a1, c1, d1, ?_⟩
  show val (fmul _ _) = _
  rw [d2, Rat.natCast_mul, Rat.natCast_mul]
  have : ((2 : Nat) : Rat) = 2 := rfl
  rw [this]
  grind

theorem wantVar_near {x : Nat → Nat} {n : Nat} {M : Rat} (h : Within x n M) :
    double.div (totW x n) (denW n) = some (wantVar x n) ∧ Near (wantVar x n) (varR x n) ((21 * (n : Rat) + 31) * (eps * (M * M))) := by
  obtain ⟨n1, n2⟩ := h.N
  obtain ⟨⟨f, lo, hi'⟩, q0⟩ := acc_tot h n (Nat.le_refl _)
  obtain ⟨_, _, df, dv⟩ := den_val n h.few
  have hMM := Rat.mul_nonneg h.ok.nonneg h.ok.nonneg
  have eMM : 0 ≤ eps * (M * M) := Rat.mul_nonneg (Rat.le_of_lt eps_pos) hMM
  have hN : (0 : Rat) < (n : Rat) := by grind
  have hNN : (0 : Rat) < (n : Rat) * (n : Rat) := Rat.mul_pos hN hN
  obtain ⟨d1, d2⟩ := div_near f df (by rw [dv]; grind)
  obtain ⟨c1, c2⟩ := sumR_close (fun i => val (rowW x n i)) (fun i => sumR (pairR x i) n) n ((n : Rat) * ((20 * (n : Rat) + 19) * (eps * (M * M)))) (fun i hi => by
    obtain ⟨a, _, _⟩ := row_near h i hi
    have := a.lo
    have := a.hi
    constructor <;> grind) n (Nat.le_refl _)
  have hp : sumR (fun i => sumR (pairR x i) n) n = 2 * ((n : Rat) * (n : Rat)) * varR x n := pairs_var x n n1
  rw [hp] at c1 c2
  have hv := varR_le h
  generalize hq : val (accTo (rowW x n) n) = q at *
  generalize sumR (fun i => val (rowW x n i)) n = Sp at *
  obtain ⟨E, hE⟩ : ∃ E : Rat, E = q / (2 * ((n : Rat) * (n : Rat))) := ⟨_, rfl⟩
  have hE2 : q = E * (2 * ((n : Rat) * (n : Rat))) := by
    rw [hE]
    have : 2 * ((n : Rat) * (n : Rat)) ≠ 0 := by grind
    generalize 2 * ((n : Rat) * (n : Rat)) = D at *
    grind
  have b1 : E ≤ varR x n + (21 * (n : Rat) + 10) * (eps * (M * M)) := by
    refine le_cancel (N := 2 * ((n : Rat) * (n : Rat))) (by grind) ?_
    have k1 := Rat.mul_nonneg (Rat.le_of_lt hNN) eMM
    grind
  have b2 : varR x n - (21 * (n : Rat) + 10) * (eps * (M * M)) ≤ E := by
    refine le_cancel (N := 2 * ((n : Rat) * (n : Rat))) (by grind) ?_
    have k1 := Rat.mul_nonneg (Rat.le_of_lt hNN) eMM
    grind
  have b3 : (21 * (n : Rat) + 10) * (eps * (M * M)) ≤ M * M := by
    have a1 := Rat.mul_le_mul_of_nonneg_left n2 eMM
    have a2 := Rat.mul_le_mul_of_nonneg_left (show (21 * 131072 + 10) * eps ≤ 1 by decide +kernel) hMM
    grind
  have b4 : 0 ≤ E := le_cancel (N := 2 * ((n : Rat) * (n : Rat))) (by grind) (by grind)
  have p100 : (14 : Rat) ≤ p2 100 := by decide +kernel
  have hsc : Sc (2 * (7 * (M * M))) := by
    rw [show 2 * (7 * (M * M)) = 14 * (M * M) by grind]
    exact sc_MM (c := 14) h.ok (by decide) p100
  have u1 : -(7 * (M * M)) ≤ E := by clear d2 c1 c2 lo hi'; grind
  have u2 : E ≤ 7 * (M * M) := by clear d2 c1 c2 lo hi'; grind
  obtain ⟨⟨r1, r2, r3⟩, _⟩ := d2 (7 * (M * M)) E hsc (by rw [dv]; exact hE2) u1 u2
  clear d2 c1 c2 lo hi' hp hE hE2 hq dv
  refine ⟨d1, ⟨r1, ?_, ?_⟩⟩
  · show _ ≤ val (fdiv (accTo (rowW x n) n) (denW n)); grind
  · show val (fdiv (accTo (rowW x n) n) (denW n)) ≤ _; grind

/-- 2 ^ -24 -/
abbrev C24 : Nat := 4499096027743125504
theorem read_C24 : double.read C24 = .number false 4503599627370496 (-76) := by decide +kernel
theorem fin_C24 : Fin C24 := ⟨_, _, _, read_C24⟩
theorem val_C24 : val C24 = p2 (-24) := by rw [val_of read_C24]; decide +kernel

/-- The variance is the pairs' within rounding: the test says yes. -/
theorem var_test (x : Nat → Nat) (n : Nat) (big : Nat) (hn4 : n ≤ 4096) (hbf : Fin big) (h : Within x n (val big)) :
    double.mul (sdW x n) (sdW x n) = some (fmul (sdW x n) (sdW x n)) ∧ double.sub (fmul (sdW x n) (sdW x n)) (wantVar x n) = some (fsub (fmul (sdW x n) (sdW x n)) (wantVar x n)) ∧
    Fin (fsub (fmul (sdW x n) (sdW x n)) (wantVar x n)) ∧ double.mul big big = some (fmul big big) ∧ double.mul (fmul big big) C24 = some (fmul (fmul big big) C24) ∧
    (double.order (fabs (fsub (fmul (sdW x n) (sdW x n)) (wantVar x n))) (fmul (fmul big big) C24) == some .lt || double.order (fabs (fsub (fmul (sdW x n) (sdW x n)) (wantVar x n))) (fmul (fmul big big) C24) == some .eq) = true := by
  obtain ⟨n1, n2⟩ := h.N
  have n4 : (n : Rat) ≤ 4096 := Rat.natCast_le_natCast.2 hn4
  obtain ⟨_, sf, s0, s3, sl, sh⟩ := sd_near h
  obtain ⟨_, wf, wl, wh⟩ := wantVar_near h
  have hv := varR_le h
  obtain ⟨a1, a2, _⟩ := mul_near sf sf
  obtain ⟨c1, c2, _⟩ := mul_near hbf hbf
  generalize hM : val big = M at *
  have hM0 := h.ok.nonneg
  have hMM := Rat.mul_nonneg hM0 hM0
  have eMM : 0 ≤ eps * (M * M) := Rat.mul_nonneg (Rat.le_of_lt eps_pos) hMM
  have nm := Rat.mul_le_mul_of_nonneg_left n4 eMM
  have em := Rat.mul_le_mul_of_nonneg_left (show 400000 * eps ≤ p2 (-25) by decide +kernel) hMM
  have p25 : p2 (-25) ≤ 1 / 4 := by decide +kernel
  have p25' : p2 (-24) = 2 * p2 (-25) := by decide +kernel
  have pm := Rat.mul_le_mul_of_nonneg_left p25 hMM
  have pm0 := Rat.mul_nonneg (Rat.le_of_lt (p2_pos (-25))) hMM
  have p100 : (100 : Rat) ≤ p2 100 := by decide +kernel
  obtain ⟨z1, _⟩ := sq_le (a := val (sdW x n)) (A := val (sdW x n)) (by grind) Rat.le_refl
  obtain ⟨⟨qf, ql, qh⟩, _⟩ := a2 (5 * (M * M)) (sc_MM h.ok (by decide) (by grind)) (by grind) (by grind)
  obtain ⟨⟨mf, ml, mh⟩, _⟩ := c2 (1 * (M * M)) (sc_MM h.ok (by decide) (by grind)) (by grind) (by grind)
  obtain ⟨b1, b2⟩ := sub_near qf wf
  obtain ⟨⟨bf, bl, bh⟩, _⟩ := b2 (1 * (M * M)) (sc_MM h.ok (by decide) (by grind)) (by grind) (by grind)
  obtain ⟨d1, d2, _⟩ := mul_near mf fin_C24
  rw [val_C24] at d2
  have k1 := Rat.mul_le_mul_of_nonneg_left ml (Rat.le_of_lt (p2_pos (-25)))
  have k2 := Rat.mul_le_mul_of_nonneg_left mh (Rat.le_of_lt (p2_pos (-25)))
  have k3 := Rat.mul_le_mul_of_nonneg_left (show p2 (-25) ≤ 1 / 4 from p25) eMM
  have k4 := Rat.mul_nonneg (Rat.le_of_lt (p2_pos (-25))) eMM
  obtain ⟨⟨ef, el, eh⟩, _⟩ := d2 (1 * (M * M)) (sc_MM h.ok (by decide) (by grind)) (by rw [p25']; grind) (by rw [p25']; grind)
  rw [p25'] at el
  obtain ⟨af, _, _, av, _⟩ := abs_val bf
  refine ⟨a1, b1, bf, c1, d1, ?_⟩
  have hle : val (fabs (fsub (fmul (sdW x n) (sdW x n)) (wantVar x n))) ≤ val (fmul (fmul big big) C24) := by
    rcases av with e | e <;> grind
  obtain ⟨o1, o2, _⟩ := order_val af ef
  rcases (show val (fabs (fsub (fmul (sdW x n) (sdW x n)) (wantVar x n))) < val (fmul (fmul big big) C24) ∨ val (fabs (fsub (fmul (sdW x n) (sdW x n)) (wantVar x n))) = val (fmul (fmul big big) C24) by grind) with e | e
  · rw [o1.2 e]; rfl
  · rw [o2.2 e]; rfl
end Go.Proofs.Qxb6608579a
