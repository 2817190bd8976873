/- Joined times: the variance's test. -/
import Derived.Test.Qxb6608579aJoin3
namespace Go.Proofs.Qxb6608579a
open Ieee

theorem sumR_nonneg (f : Nat → Rat) (n : Nat) (h : ∀ i, i < n → 0 ≤ f i) : ∀ k, k ≤ n → 0 ≤ sumR f k
  | 0, _ => Rat.le_refl
  | k + 1, hk => by
    show 0 ≤ sumR f k + f k
    have := sumR_nonneg f n h k (by omega)
    have := h k (by omega)
    grind

theorem varR_nonneg {x : Nat → Nat} {n : Nat} {M : Rat} (h : Within x n M) : 0 ≤ varR x n := by
  obtain ⟨n1, _⟩ := h.N
  have hv := varR_mul (x := x) n1
  have := sumR_nonneg (devR x n) n (fun i hi => (devR_le h i hi).1) n (Nat.le_refl _)
  exact le_cancel (N := (n : Rat)) (by grind) (by rw [hv]; grind)

def wantW (x y : Nat → Nat) (na nb : Nat) : Nat :=
  fadd (fadd (fmul (fmul (floatOfInt .f64 (na : Int)) (sdW x na)) (sdW x na)) (fmul (fmul (floatOfInt .f64 (nb : Int)) (sdW y nb)) (sdW y nb))) (fmul (fmul (shareW na nb) (gapW x y na nb)) (gapW x y na nb))

theorem want_join {X x y : Nat → Nat} {na nb : Nat} {M : Rat} (hJ : Joined X x y na nb) (hX : Within X (na + nb) M) (hx : Within x na M) (hy : Within y nb M) :
    double.add (fmul (fmul (floatOfInt .f64 (na : Int)) (sdW x na)) (sdW x na)) (fmul (fmul (floatOfInt .f64 (nb : Int)) (sdW y nb)) (sdW y nb)) = some (fadd (fmul (fmul (floatOfInt .f64 (na : Int)) (sdW x na)) (sdW x na)) (fmul (fmul (floatOfInt .f64 (nb : Int)) (sdW y nb)) (sdW y nb))) ∧
    double.add (fadd (fmul (fmul (floatOfInt .f64 (na : Int)) (sdW x na)) (sdW x na)) (fmul (fmul (floatOfInt .f64 (nb : Int)) (sdW y nb)) (sdW y nb))) (fmul (fmul (shareW na nb) (gapW x y na nb)) (gapW x y na nb)) = some (wantW x y na nb) ∧
    Near (wantW x y na nb) (((na + nb : Nat) : Rat) * varR X (na + nb)) (((na + nb : Nat) : Rat) * ((40 * ((na + nb : Nat) : Rat) + 270) * (eps * (M * M)))) := by
  obtain ⟨n1, n2⟩ := hX.N
  obtain ⟨a1, -⟩ := hx.N
  obtain ⟨b1, -⟩ := hy.N
  have e : ((na + nb : Nat) : Rat) = (na : Rat) + (nb : Rat) := Rat.natCast_add na nb
  obtain ⟨-, -, -, G, hG, -, -, gf, gl, gh⟩ := gap_near hx hy hX.few
  have hV := var_joined hJ a1 b1 G hG
  have v0 := varR_nonneg hX
  have v1 := varR_le hX
  have va0 := varR_nonneg hx
  have va1 := varR_le hx
  have vb0 := varR_nonneg hy
  have vb1 := varR_le hy
  obtain ⟨-, -, qf, ql, qh⟩ := sdN hx
  obtain ⟨-, -, rf, rl, rh⟩ := sdN hy
  obtain ⟨s1, s2⟩ := add_near qf rf
  have hok := hX.ok
  have hM := hok.nonneg
  have hMM := Rat.mul_nonneg hM hM
  have eMM : 0 ≤ eps * (M * M) := Rat.mul_nonneg (Rat.le_of_lt eps_pos) hMM
  have ha0 : (0 : Rat) ≤ (na : Rat) := by clear s2; grind
  have hb0 : (0 : Rat) ≤ (nb : Rat) := by clear s2; grind
  have hn0 : (0 : Rat) ≤ ((na + nb : Nat) : Rat) := by clear s2; grind
  have p100 : (5 * 131072 : Rat) ≤ p2 100 := by decide +kernel
  have sc5 : Sc (5 * ((na + nb : Nat) : Rat) * (M * M)) := sc_MM hok (by clear s2; grind) (by clear s2; grind)
  obtain ⟨u1, u2⟩ := sum_pure e ha0 hb0 eMM (show (0 : Rat) ≤ 30 by decide) ql qh rl rh
  have k1 := Rat.mul_le_mul_of_nonneg_left va1 ha0
  have k2 := Rat.mul_le_mul_of_nonneg_left vb1 hb0
  have k3 := Rat.mul_nonneg ha0 va0
  have k4 := Rat.mul_nonneg hb0 vb0
  have k5 := Rat.mul_le_mul_of_nonneg_left v1 hn0
  have k6 := Rat.mul_nonneg hn0 v0
  have r0 : 0 ≤ (na : Rat) * varR x na + (nb : Rat) * varR y nb := by clear s2 u1 u2 ql qh rl rh gl gh hV; grind
  have r1 : (na : Rat) * varR x na + (nb : Rat) * varR y nb ≤ 4 * (((na + nb : Nat) : Rat) * (M * M)) := by clear s2 u1 u2 ql qh rl rh gl gh hV; rw [e]; grind
  clear ql qh rl rh k1 k2 k3 k4 v0 v1 va0 va1 vb0 vb1 ha0 hb0 hG a1 b1 e
  generalize (na : Rat) * varR x na + (nb : Rat) * varR y nb = R at *
  generalize G * (meanR x na - meanR y nb) * (meanR x na - meanR y nb) = Q at *
  generalize ((na + nb : Nat) : Rat) * varR X (na + nb) = V at *
  generalize hn' : ((na + nb : Nat) : Rat) = n at *
  have nE := Rat.mul_le_mul_of_nonneg_left n2 eMM
  have small0 := Rat.mul_le_mul_of_nonneg_left (show (100 * 131072 + 1000) * eps ≤ 1 / 4 by decide +kernel) hMM
  have small : (100 * n + 1000) * (eps * (M * M)) ≤ (M * M) / 4 := by clear s2 u1 u2 gl gh r0 r1 k5 k6; grind
  have smallN := Rat.mul_le_mul_of_nonneg_left small hn0
  have nM : 0 ≤ n * (M * M) := Rat.mul_nonneg hn0 hMM
  have nEM : 0 ≤ n * (eps * (M * M)) := Rat.mul_nonneg hn0 eMM
  have nnEM : 0 ≤ n * (n * (eps * (M * M))) := Rat.mul_nonneg hn0 nEM
  clear nE small0 small p100
  rw [show n * (4 * (M * M)) = 4 * (n * (M * M)) by clear s2 u1 u2 gl gh r0 r1 k5 k6 smallN; grind] at k5
  have eX : n * (M * M / 4) = n * (M * M) / 4 := by clear s2 u1 u2 gl gh r0 r1 k5 k6 smallN; grind
  rw [eX] at smallN
  have eY : eps * (5 * n * (M * M)) = 5 * (n * (eps * (M * M))) := by clear s2 u1 u2 gl gh r0 r1 k5 k6 smallN eX; grind
  have eZ : 5 * n * (M * M) = 5 * (n * (M * M)) := by clear s2 u1 u2 gl gh r0 r1 k5 k6 smallN eX eY; grind
  have e40 : n * ((40 * n + 270) * (eps * (M * M))) = 40 * (n * (n * (eps * (M * M)))) + 270 * (n * (eps * (M * M))) := by clear s2 u1 u2 gl gh r0 r1 k5 k6 smallN eX eY eZ; grind
  have e30 : n * ((30 * n + 131) * (eps * (M * M))) = 30 * (n * (n * (eps * (M * M)))) + 131 * (n * (eps * (M * M))) := by clear s2 u1 u2 gl gh r0 r1 k5 k6 smallN eX eY eZ e40; grind
  have e10 : n * ((10 * n + 129) * (eps * (M * M))) = 10 * (n * (n * (eps * (M * M)))) + 129 * (n * (eps * (M * M))) := by clear s2 u1 u2 gl gh r0 r1 k5 k6 smallN eX eY eZ e40 e30; grind
  have e99 : n * ((100 * n + 1000) * (eps * (M * M))) = 100 * (n * (n * (eps * (M * M)))) + 1000 * (n * (eps * (M * M))) := by clear s2 u1 u2 gl gh r0 r1 k5 k6 smallN eX eY eZ e40 e30 e10; grind
  rw [e30] at u1 u2
  rw [e10] at gl gh
  rw [e99] at smallN
  rw [e40]
  clear eX e40 e30 e10 e99
  obtain ⟨A, hA⟩ : ∃ A, A = val (fmul (fmul (floatOfInt .f64 (na : Int)) (sdW x na)) (sdW x na)) + val (fmul (fmul (floatOfInt .f64 (nb : Int)) (sdW y nb)) (sdW y nb)) := ⟨_, rfl⟩
  rw [← hA] at u1 u2 s2
  have f5 := s2 (5 * n * (M * M)) sc5
  clear s2 hA
  rw [eY, eZ] at f5
  have hb1 : -(5 * (n * (M * M))) ≤ A := by
    clear f5
    generalize n * (n * (eps * (M * M))) = N2 at *
    generalize n * (eps * (M * M)) = N1 at *
    generalize n * (M * M) = K at *
    clear hok sc5 eMM hMM n1 n2 eY
    grind
  have hb2 : A ≤ 5 * (n * (M * M)) := by
    clear f5
    generalize n * (n * (eps * (M * M))) = N2 at *
    generalize n * (eps * (M * M)) = N1 at *
    generalize n * (M * M) = K at *
    clear hok sc5 eMM hMM n1 n2 eY
    grind
  obtain ⟨⟨wf, wl, wh⟩, -⟩ := f5 hb1 hb2
  clear f5
  obtain ⟨t1, t2⟩ := add_near wf gf
  have f6 := t2 (5 * n * (M * M)) sc5
  clear t2
  rw [eY, eZ] at f6
  generalize val (fadd (fmul (fmul (floatOfInt .f64 (na : Int)) (sdW x na)) (sdW x na)) (fmul (fmul (floatOfInt .f64 (nb : Int)) (sdW y nb)) (sdW y nb))) = W5 at *
  generalize val (fmul (fmul (shareW na nb) (gapW x y na nb)) (gapW x y na nb)) = W9 at *
  have hc1 : -(5 * (n * (M * M))) ≤ W5 + W9 := by
    clear f6
    generalize n * (n * (eps * (M * M))) = N2 at *
    generalize n * (eps * (M * M)) = N1 at *
    generalize n * (M * M) = K at *
    clear hok sc5 eMM hMM n1 n2 eY
    grind
  have hc2 : W5 + W9 ≤ 5 * (n * (M * M)) := by
    clear f6
    generalize n * (n * (eps * (M * M))) = N2 at *
    generalize n * (eps * (M * M)) = N1 at *
    generalize n * (M * M) = K at *
    clear hok sc5 eMM hMM n1 n2 eY
    grind
  obtain ⟨⟨zf, zl, zh⟩, -⟩ := f6 hc1 hc2
  clear f6
  refine ⟨s1, t1, ⟨zf, ?_, ?_⟩⟩
  · show _ ≤ val (fadd _ _)
    generalize val (fadd (fadd (fmul (fmul (floatOfInt .f64 (na : Int)) (sdW x na)) (sdW x na)) (fmul (fmul (floatOfInt .f64 (nb : Int)) (sdW y nb)) (sdW y nb))) (fmul (fmul (shareW na nb) (gapW x y na nb)) (gapW x y na nb))) = Z at *
    generalize n * (n * (eps * (M * M))) = N2 at *
    generalize n * (eps * (M * M)) = N1 at *
    clear hok sc5 eMM hMM n1 n2 eY eZ hb1 hb2 hc1 hc2 smallN k5 k6 r0 r1
    grind
  · show val (fadd _ _) ≤ _
    generalize val (fadd (fadd (fmul (fmul (floatOfInt .f64 (na : Int)) (sdW x na)) (sdW x na)) (fmul (fmul (floatOfInt .f64 (nb : Int)) (sdW y nb)) (sdW y nb))) (fmul (fmul (shareW na nb) (gapW x y na nb)) (gapW x y na nb))) = Z at *
    generalize n * (n * (eps * (M * M))) = N2 at *
    generalize n * (eps * (M * M)) = N1 at *
    clear hok sc5 eMM hMM n1 n2 eY eZ hb1 hb2 hc1 hc2 smallN k5 k6 r0 r1
    grind
end Go.Proofs.Qxb6608579a
