/- Joined times: the two tests. -/
import Derived.Test.Qxb6608579aJoin2
namespace Go.Proofs.Qxb6608579a
open Ieee

/-- 2 ^ -28 -/
abbrev C28 : Nat := 4481081629233643520
theorem read_C28 : double.read C28 = .number false 4503599627370496 (-80) := by decide +kernel
theorem fin_C28 : Fin C28 := ⟨_, _, _, read_C28⟩
theorem val_C28 : val C28 = p2 (-28) := by rw [val_of read_C28]; decide +kernel

theorem ab_sq {a b n E : Rat} (e : n = a + b) (ha : 0 ≤ a) (hb : 0 ≤ b) (hE : 0 ≤ E) (c d : Rat) (hc : 0 ≤ c) : a * ((c * a + d) * E) + b * ((c * b + d) * E) ≤ n * ((c * n + d) * E) := by
  have k := Rat.mul_nonneg (Rat.mul_nonneg hc (Rat.mul_nonneg ha hb)) hE
  subst e
  grind

theorem sum_pure {P Q A B a b n E c d : Rat} (e : n = a + b) (ha : 0 ≤ a) (hb : 0 ≤ b) (hE : 0 ≤ E) (hc : 0 ≤ c)
    (p1 : A - a * ((c * a + d) * E) ≤ P) (p2 : P ≤ A + a * ((c * a + d) * E)) (q1 : B - b * ((c * b + d) * E) ≤ Q) (q2 : Q ≤ B + b * ((c * b + d) * E)) :
    (A + B) - n * ((c * n + d) * E) ≤ P + Q ∧ P + Q ≤ (A + B) + n * ((c * n + d) * E) := by
  have k := ab_sq e ha hb hE c d hc
  generalize n * ((c * n + d) * E) = u at *
  generalize a * ((c * a + d) * E) = v at *
  generalize b * ((c * b + d) * E) = w at *
  constructor <;> grind

theorem mean_join {X x y : Nat → Nat} {na nb : Nat} (big : Nat) (hbf : Fin big) (hJ : Joined X x y na nb) (hX : Within X (na + nb) (val big)) (hx : Within x na (val big)) (hy : Within y nb (val big)) :
    double.add (fmul (meanW x na) (floatOfInt .f64 (na : Int))) (fmul (meanW y nb) (floatOfInt .f64 (nb : Int))) = some (fadd (fmul (meanW x na) (floatOfInt .f64 (na : Int))) (fmul (meanW y nb) (floatOfInt .f64 (nb : Int)))) ∧
    double.sub (fmul (meanW X (na + nb)) (floatOfInt .f64 ((na + nb : Nat) : Int))) (fadd (fmul (meanW x na) (floatOfInt .f64 (na : Int))) (fmul (meanW y nb) (floatOfInt .f64 (nb : Int)))) =
      some (fsub (fmul (meanW X (na + nb)) (floatOfInt .f64 ((na + nb : Nat) : Int))) (fadd (fmul (meanW x na) (floatOfInt .f64 (na : Int))) (fmul (meanW y nb) (floatOfInt .f64 (nb : Int))))) ∧
    double.mul (floatOfInt .f64 ((na + nb : Nat) : Int)) big = some (fmul (floatOfInt .f64 ((na + nb : Nat) : Int)) big) ∧
    double.mul (fmul (floatOfInt .f64 ((na + nb : Nat) : Int)) big) C28 = some (fmul (fmul (floatOfInt .f64 ((na + nb : Nat) : Int)) big) C28) ∧
    (double.order (fabs (fsub (fmul (meanW X (na + nb)) (floatOfInt .f64 ((na + nb : Nat) : Int))) (fadd (fmul (meanW x na) (floatOfInt .f64 (na : Int))) (fmul (meanW y nb) (floatOfInt .f64 (nb : Int))))))
      (fmul (fmul (floatOfInt .f64 ((na + nb : Nat) : Int)) big) C28) == some .gt) = false := by
  obtain ⟨n1, n2⟩ := hX.N
  obtain ⟨a1, -⟩ := hx.N
  obtain ⟨b1, -⟩ := hy.N
  have e : ((na + nb : Nat) : Rat) = (na : Rat) + (nb : Rat) := Rat.natCast_add na nb
  have hm := mean_joined hJ a1 b1
  obtain ⟨m1, m2⟩ := meanR_le hX
  obtain ⟨nf, nv⟩ := ofNat_exact (na + nb) (by have := hX.few; omega)
  obtain ⟨-, pf, pl, ph⟩ := meanN hX
  obtain ⟨-, qf, ql, qh⟩ := meanN hx
  obtain ⟨-, rf, rl, rh⟩ := meanN hy
  obtain ⟨s1, s2⟩ := add_near qf rf
  obtain ⟨t1, t2, -⟩ := mul_near nf hbf
  rw [nv] at t2
  have hM := hX.ok.nonneg
  have hok := hX.ok
  generalize val big = M at *
  have eM : 0 ≤ eps * M := Rat.mul_nonneg (Rat.le_of_lt eps_pos) hM
  have hn0 : (0 : Rat) ≤ ((na + nb : Nat) : Rat) := by clear s2 t2; grind
  have p100 : (2 * 131072 : Rat) ≤ p2 100 := by decide +kernel
  have sc2 : Sc (2 * ((na + nb : Nat) : Rat) * M) := sc_M hok (by clear s2 t2; grind) (by clear s2 t2; grind)
  have sc1 : Sc (((na + nb : Nat) : Rat) * M) := sc_M hok n1 (by clear s2 t2; grind)
  obtain ⟨u1, u2⟩ := sum_pure e (by clear s2 t2; grind) (by clear s2 t2; grind) eM (show (0 : Rat) ≤ 2 by decide) ql qh rl rh
  rw [← hm] at u1 u2
  clear ql qh rl rh hm e a1 b1
  generalize meanR X (na + nb) = μ at *
  generalize hn' : ((na + nb : Nat) : Rat) = n at *
  -- what is small
  have nE := Rat.mul_le_mul_of_nonneg_left n2 eM
  have p29 : p2 (-28) = 2 * p2 (-29) := by decide +kernel
  have p29' : p2 (-29) ≤ 1 / 8 := by decide +kernel
  have pp : 0 ≤ p2 (-29) := Rat.le_of_lt (p2_pos _)
  have small0 := Rat.mul_le_mul_of_nonneg_left (show (4 * 131072 + 30) * eps ≤ p2 (-29) by decide +kernel) hM
  have small : (4 * n + 30) * (eps * M) ≤ M * p2 (-29) := by clear s2 t2 u1 u2 pl ph; grind
  have smallN := Rat.mul_le_mul_of_nonneg_left small hn0
  have nM : 0 ≤ n * M := Rat.mul_nonneg hn0 hM
  have nMp := Rat.mul_le_mul_of_nonneg_left p29' nM
  have nEM : 0 ≤ n * (eps * M) := Rat.mul_nonneg hn0 eM
  have nnEM : 0 ≤ n * (n * (eps * M)) := Rat.mul_nonneg hn0 nEM
  clear nE small0 small
  have w1 := Rat.mul_le_mul_of_nonneg_left m1 hn0
  have w2 := Rat.mul_le_mul_of_nonneg_left m2 hn0
  clear m1 m2
  -- the sum
  generalize hA : val (fmul (meanW x na) (floatOfInt .f64 (na : Int))) + val (fmul (meanW y nb) (floatOfInt .f64 (nb : Int))) = A at *
  have y1 : -(2 * n * M) ≤ A := by clear s2 t2; grind
  have y2 : A ≤ 2 * n * M := by clear s2 t2; grind
  obtain ⟨⟨sf, sl, sh⟩, -⟩ := s2 (2 * n * M) sc2 y1 y2
  clear s2
  obtain ⟨d1, d2⟩ := sub_near pf sf
  generalize val (fadd (fmul (meanW x na) (floatOfInt .f64 (na : Int))) (fmul (meanW y nb) (floatOfInt .f64 (nb : Int)))) = S at *
  generalize val (fmul (meanW X (na + nb)) (floatOfInt .f64 ((na + nb : Nat) : Int))) = P at *
  have z1 : P - S ≤ n * ((4 * n + 18) * (eps * M)) := by clear d2 t2 y1 y2 w1 w2 smallN nMp; grind
  have z2 : S - P ≤ n * ((4 * n + 18) * (eps * M)) := by clear d2 t2 y1 y2 w1 w2 smallN nMp; grind
  clear sl sh u1 u2 pl ph y1 y2 w1 w2
  obtain ⟨⟨df, dl, dh⟩, -⟩ := d2 (n * M) sc1 (by clear d2 t2; grind) (by clear d2 t2; grind)
  clear d2
  obtain ⟨⟨tf, tl, th⟩, -⟩ := t2 (n * M) sc1 (by clear t2; grind) (by clear t2; grind)
  clear t2
  obtain ⟨c1, c2, -⟩ := mul_near tf fin_C28
  rw [val_C28, p29] at c2
  generalize val (fmul (floatOfInt .f64 ((na + nb : Nat) : Int)) big) = T at *
  have k1 := Rat.mul_le_mul_of_nonneg_left tl pp
  have k2 := Rat.mul_le_mul_of_nonneg_left th pp
  have k3 := Rat.mul_le_mul_of_nonneg_left p29' nEM
  have k4 := Rat.mul_nonneg pp nEM
  have k5 := Rat.mul_nonneg pp nM
  have k6 : n * (eps * M) ≤ n * M := by clear c2 z1 z2 dl dh k1 k2 k3 k4 k5 tl th; grind
  obtain ⟨⟨cf, cl, ch⟩, -⟩ := c2 (n * M) sc1 (by clear c2 z1 z2 dl dh smallN; grind) (by clear c2 z1 z2 dl dh smallN; grind)
  clear c2
  obtain ⟨af, -, -, av, -⟩ := abs_val df
  refine ⟨s1, d1, t1, c1, ?_⟩
  have hno : ¬ val (fmul (fmul (floatOfInt .f64 ((na + nb : Nat) : Int)) big) C28) < val (fabs (fsub (fmul (meanW X (na + nb)) (floatOfInt .f64 ((na + nb : Nat) : Int))) (fadd (fmul (meanW x na) (floatOfInt .f64 (na : Int))) (fmul (meanW y nb) (floatOfInt .f64 (nb : Int)))))) := by
    generalize val (fmul (fmul (floatOfInt .f64 ((na + nb : Nat) : Int)) big) C28) = L at *
    generalize val (fsub (fmul (meanW X (na + nb)) (floatOfInt .f64 ((na + nb : Nat) : Int))) (fadd (fmul (meanW x na) (floatOfInt .f64 (na : Int))) (fmul (meanW y nb) (floatOfInt .f64 (nb : Int))))) = D at *
    rcases av with e | e
    · rw [e]; clear e sc1 sc2 p100 n1 n2 p29 p29' hn' hok; grind
    · rw [e]; clear e sc1 sc2 p100 n1 n2 p29 p29' hn' hok; grind
  have := mt (order_val af cf).2.2.1 hno
  simpa using this
end Go.Proofs.Qxb6608579a
