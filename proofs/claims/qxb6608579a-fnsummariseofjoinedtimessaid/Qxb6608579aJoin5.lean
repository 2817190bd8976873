/- Joined times: the variance's test; the greatest. -/
import Derived.Test.Qxb6608579aJoin4
import Derived.Test.Qxb6608579aTop
namespace Go.Proofs.Qxb6608579a
open Ieee

theorem var_join {X x y : Nat → Nat} {na nb : Nat} (big : Nat) (hbf : Fin big) (hJ : Joined X x y na nb) (hX : Within X (na + nb) (val big)) (hx : Within x na (val big)) (hy : Within y nb (val big)) :
    double.sub (fmul (fmul (floatOfInt .f64 ((na + nb : Nat) : Int)) (sdW X (na + nb))) (sdW X (na + nb))) (wantW x y na nb) = some (fsub (fmul (fmul (floatOfInt .f64 ((na + nb : Nat) : Int)) (sdW X (na + nb))) (sdW X (na + nb))) (wantW x y na nb)) ∧
    double.mul (fmul (floatOfInt .f64 ((na + nb : Nat) : Int)) big) big = some (fmul (fmul (floatOfInt .f64 ((na + nb : Nat) : Int)) big) big) ∧
    double.mul (fmul (fmul (floatOfInt .f64 ((na + nb : Nat) : Int)) big) big) C24 = some (fmul (fmul (fmul (floatOfInt .f64 ((na + nb : Nat) : Int)) big) big) C24) ∧
    (double.order (fabs (fsub (fmul (fmul (floatOfInt .f64 ((na + nb : Nat) : Int)) (sdW X (na + nb))) (sdW X (na + nb))) (wantW x y na nb))) (fmul (fmul (fmul (floatOfInt .f64 ((na + nb : Nat) : Int)) big) big) C24) == some .lt ||
      double.order (fabs (fsub (fmul (fmul (floatOfInt .f64 ((na + nb : Nat) : Int)) (sdW X (na + nb))) (sdW X (na + nb))) (wantW x y na nb))) (fmul (fmul (fmul (floatOfInt .f64 ((na + nb : Nat) : Int)) big) big) C24) == some .eq) = true := by
  obtain ⟨n1, n2⟩ := hX.N
  obtain ⟨-, -, wf, wl, wh⟩ := want_join hJ hX hx hy
  obtain ⟨-, -, zf, zl, zh⟩ := sdN hX
  obtain ⟨nf, nv⟩ := ofNat_exact (na + nb) (by have := hX.few; omega)
  obtain ⟨d1, d2⟩ := sub_near zf wf
  obtain ⟨t1, t2, -⟩ := mul_near nf hbf
  rw [nv] at t2
  have hok := hX.ok
  clear hx hy hJ
  generalize hMv : val big = M at *
  have hM := hok.nonneg
  have hMM := Rat.mul_nonneg hM hM
  have eM : 0 ≤ eps * M := Rat.mul_nonneg (Rat.le_of_lt eps_pos) hM
  have eMM : 0 ≤ eps * (M * M) := Rat.mul_nonneg (Rat.le_of_lt eps_pos) hMM
  have hn0 : (0 : Rat) ≤ ((na + nb : Nat) : Rat) := by clear d2 t2; grind
  have p100 : (5 * 131072 : Rat) ≤ p2 100 := by decide +kernel
  have scM : Sc (((na + nb : Nat) : Rat) * M) := sc_M hok n1 (by clear d2 t2; grind)
  have sc1 : Sc (((na + nb : Nat) : Rat) * (M * M)) := sc_MM hok n1 (by clear d2 t2; grind)
  have sc2 : Sc (2 * ((na + nb : Nat) : Rat) * (M * M)) := sc_MM hok (by clear d2 t2; grind) (by clear d2 t2; grind)
  clear hX
  generalize ((na + nb : Nat) : Rat) * varR X (na + nb) = V at *
  generalize ((na + nb : Nat) : Rat) = n at *
  have nE := Rat.mul_le_mul_of_nonneg_left n2 eMM
  have pp : 0 ≤ p2 (-25) := Rat.le_of_lt (p2_pos _)
  have p25 : p2 (-24) = 2 * p2 (-25) := by decide +kernel
  have p25' : p2 (-25) ≤ 1 / 8 := by decide +kernel
  have small0 := Rat.mul_le_mul_of_nonneg_left (show (100 * 131072 + 1000) * eps ≤ p2 (-25) by decide +kernel) hMM
  have small : (100 * n + 1000) * (eps * (M * M)) ≤ (M * M) * p2 (-25) := by clear d2 t2 wl wh zl zh; grind
  have smallN := Rat.mul_le_mul_of_nonneg_left small hn0
  have nM : 0 ≤ n * M := Rat.mul_nonneg hn0 hM
  have nMM : 0 ≤ n * (M * M) := Rat.mul_nonneg hn0 hMM
  have nMp := Rat.mul_le_mul_of_nonneg_left p25' nMM
  have nEM : 0 ≤ n * (eps * (M * M)) := Rat.mul_nonneg hn0 eMM
  have nnEM : 0 ≤ n * (n * (eps * (M * M))) := Rat.mul_nonneg hn0 nEM
  clear nE small0 small p100
  have q1 : n * ((40 * n + 270) * (eps * (M * M))) = 40 * (n * (n * (eps * (M * M)))) + 270 * (n * (eps * (M * M))) := by clear d2 t2 wl wh zl zh smallN nMp; grind
  have q2 : n * ((30 * n + 131) * (eps * (M * M))) = 30 * (n * (n * (eps * (M * M)))) + 131 * (n * (eps * (M * M))) := by clear d2 t2 wl wh zl zh smallN nMp q1; grind
  have q3 : n * ((100 * n + 1000) * (eps * (M * M))) = 100 * (n * (n * (eps * (M * M)))) + 1000 * (n * (eps * (M * M))) := by clear d2 t2 wl wh zl zh smallN nMp q1 q2; grind
  have q4 : n * (M * M * p2 (-25)) = n * (M * M) * p2 (-25) := by clear d2 t2 wl wh zl zh smallN nMp q1 q2 q3; grind
  have q5 : eps * (n * (M * M)) = n * (eps * (M * M)) := by clear d2 t2 wl wh zl zh smallN nMp q1 q2 q3 q4; grind
  have q6 : eps * (2 * n * (M * M)) = 2 * (n * (eps * (M * M))) := by clear d2 t2 wl wh zl zh smallN nMp q1 q2 q3 q4 q5; grind
  have q7 : eps * (n * M) * M = n * (eps * (M * M)) := by clear d2 t2 wl wh zl zh smallN nMp q1 q2 q3 q4 q5 q6; grind
  have q8 : n * M * M = n * (M * M) := by clear d2 t2 wl wh zl zh smallN nMp q1 q2 q3 q4 q5 q6 q7; grind
  rw [q1] at wl wh
  rw [q2] at zl zh
  rw [q3, q4] at smallN
  clear q1 q2 q3 q4
  -- the limit
  have e16 : eps ≤ 1 / 16 := by decide +kernel
  obtain ⟨⟨tf, tl, th⟩, -⟩ := t2 (n * M) scM (by clear t2 d2 wl wh zl zh smallN nMp q5 q6 q7 q8; grind) (by clear t2 d2 wl wh zl zh smallN nMp q5 q6 q7 q8; grind)
  clear t2
  obtain ⟨c1, c2, -⟩ := mul_near tf hbf
  rw [hMv] at c2
  generalize val (fmul (floatOfInt .f64 ((na + nb : Nat) : Int)) big) = T at *
  have k1 := Rat.mul_le_mul_of_nonneg_right tl hM
  have k2 := Rat.mul_le_mul_of_nonneg_right th hM
  rw [show (n * M - eps * (n * M)) * M = n * M * M - eps * (n * M) * M from (by intros; grind : ∀ u v w : Rat, (u - v) * w = u * w - v * w) _ _ _, q7, q8] at k1
  rw [Rat.add_mul, q7, q8] at k2
  clear q7 q8 tl th
  have f2 := c2 (2 * n * (M * M)) sc2
  clear c2
  rw [q6, show 2 * n * (M * M) = 2 * (n * (M * M)) by clear f2 d2 wl wh zl zh smallN nMp q5 q6 k1 k2; grind] at f2
  have hs1 : n * (eps * (M * M)) ≤ n * (M * M) := by
    clear f2 d2 wl wh zl zh k1 k2 q5 q6
    generalize n * (n * (eps * (M * M))) = N2 at *
    generalize n * (eps * (M * M)) = N1 at *
    generalize n * (M * M) = K at *
    grind
  have g1 : -(2 * (n * (M * M))) ≤ T * M := by
    clear f2 d2 wl wh zl zh smallN nMp q5 q6
    generalize n * (eps * (M * M)) = N1 at *
    generalize n * (M * M) = K at *
    clear scM sc1 sc2
    grind
  have g2 : T * M ≤ 2 * (n * (M * M)) := by
    clear f2 d2 wl wh zl zh smallN nMp q5 q6
    generalize n * (eps * (M * M)) = N1 at *
    generalize n * (M * M) = K at *
    clear scM sc1 sc2
    grind
  obtain ⟨⟨uf, ul, uh⟩, -⟩ := f2 g1 g2
  clear f2
  obtain ⟨l1, l2, -⟩ := mul_near uf fin_C24
  rw [val_C24, p25] at l2
  generalize val (fmul (fmul (floatOfInt .f64 ((na + nb : Nat) : Int)) big) big) = U at *
  have a1 : n * (M * M) - 3 * (n * (eps * (M * M))) ≤ U := by
    clear l2 d2 wl wh zl zh smallN nMp q5 q6
    generalize n * (eps * (M * M)) = N1 at *
    generalize n * (M * M) = K at *
    clear scM sc1 sc2
    grind
  have a2 : U ≤ n * (M * M) + 3 * (n * (eps * (M * M))) := by
    clear l2 d2 wl wh zl zh smallN nMp q5 q6
    generalize n * (eps * (M * M)) = N1 at *
    generalize n * (M * M) = K at *
    clear scM sc1 sc2
    grind
  clear ul uh k1 k2 g1 g2 q6
  have b1 := Rat.mul_le_mul_of_nonneg_left a1 pp
  have b2 := Rat.mul_le_mul_of_nonneg_left a2 pp
  have b3 := Rat.mul_le_mul_of_nonneg_left p25' nEM
  have b4 := Rat.mul_nonneg pp nEM
  have b5 := Rat.mul_nonneg pp nMM
  have f3 := l2 (n * (M * M)) sc1
  have f4 := d2 (n * (M * M)) sc1
  clear l2 d2
  rw [q5] at f3 f4
  have g1 : -(n * (M * M)) ≤ U * (2 * p2 (-25)) := by
    clear f3 f4 wl wh zl zh smallN q5 a1 a2
    generalize n * (eps * (M * M)) = N1 at *
    generalize n * (M * M) = K at *
    clear scM sc1 sc2
    grind
  have g2 : U * (2 * p2 (-25)) ≤ n * (M * M) := by
    clear f3 f4 wl wh zl zh smallN q5 a1 a2
    generalize n * (eps * (M * M)) = N1 at *
    generalize n * (M * M) = K at *
    clear scM sc1 sc2
    grind
  obtain ⟨⟨lf, ll, lh⟩, -⟩ := f3 g1 g2
  clear f3 g1 g2 lh
  -- the difference
  generalize val (fmul (fmul (floatOfInt .f64 ((na + nb : Nat) : Int)) (sdW X (na + nb))) (sdW X (na + nb))) = Z at *
  generalize val (wantW x y na nb) = W at *
  have h1 : Z - W ≤ 70 * (n * (n * (eps * (M * M)))) + 401 * (n * (eps * (M * M))) := by
    clear f4 smallN nMp b1 b2 b3 b4 b5 a1 a2 q5 ll
    generalize n * (n * (eps * (M * M))) = N2 at *
    generalize n * (eps * (M * M)) = N1 at *
    clear scM sc1 sc2
    grind
  have h2 : W - Z ≤ 70 * (n * (n * (eps * (M * M)))) + 401 * (n * (eps * (M * M))) := by
    clear f4 smallN nMp b1 b2 b3 b4 b5 a1 a2 q5 ll
    generalize n * (n * (eps * (M * M))) = N2 at *
    generalize n * (eps * (M * M)) = N1 at *
    clear scM sc1 sc2
    grind
  clear wl wh zl zh
  have g1 : -(n * (M * M)) ≤ Z - W := by
    clear f4 b1 b2 b3 b4 b5 a1 a2 q5 ll
    generalize n * (n * (eps * (M * M))) = N2 at *
    generalize n * (eps * (M * M)) = N1 at *
    generalize n * (M * M) = K at *
    clear scM sc1 sc2
    grind
  have g2 : Z - W ≤ n * (M * M) := by
    clear f4 b1 b2 b3 b4 b5 a1 a2 q5 ll
    generalize n * (n * (eps * (M * M))) = N2 at *
    generalize n * (eps * (M * M)) = N1 at *
    generalize n * (M * M) = K at *
    clear scM sc1 sc2
    grind
  obtain ⟨⟨df, dl, dh⟩, -⟩ := f4 g1 g2
  clear f4 g1 g2
  obtain ⟨af, -, -, av, -⟩ := abs_val df
  refine ⟨d1, c1, l1, ?_⟩
  have hle : val (fabs (fsub (fmul (fmul (floatOfInt .f64 ((na + nb : Nat) : Int)) (sdW X (na + nb))) (sdW X (na + nb))) (wantW x y na nb))) ≤ val (fmul (fmul (fmul (floatOfInt .f64 ((na + nb : Nat) : Int)) big) big) C24) := by
    generalize val (fmul (fmul (fmul (floatOfInt .f64 ((na + nb : Nat) : Int)) big) big) C24) = L at *
    generalize val (fsub (fmul (fmul (floatOfInt .f64 ((na + nb : Nat) : Int)) (sdW X (na + nb))) (sdW X (na + nb))) (wantW x y na nb)) = D at *
    clear q5 scM sc1 sc2 a2 b2
    generalize n * (n * (eps * (M * M))) = N2 at *
    generalize n * (eps * (M * M)) = N1 at *
    generalize n * (M * M) = K at *
    rcases av with e | e
    · rw [e]; clear e; grind
    · rw [e]; clear e; grind
  obtain ⟨o1, o2, _⟩ := order_val af lf
  rcases (show val (fabs (fsub (fmul (fmul (floatOfInt .f64 ((na + nb : Nat) : Int)) (sdW X (na + nb))) (sdW X (na + nb))) (wantW x y na nb))) < val (fmul (fmul (fmul (floatOfInt .f64 ((na + nb : Nat) : Int)) big) big) C24) ∨ val (fabs (fsub (fmul (fmul (floatOfInt .f64 ((na + nb : Nat) : Int)) (sdW X (na + nb))) (sdW X (na + nb))) (wantW x y na nb))) = val (fmul (fmul (fmul (floatOfInt .f64 ((na + nb : Nat) : Int)) big) big) C24) from by
    generalize val (fabs (fsub (fmul (fmul (floatOfInt .f64 ((na + nb : Nat) : Int)) (sdW X (na + nb))) (sdW X (na + nb))) (wantW x y na nb))) = p at hle ⊢
    generalize val (fmul (fmul (fmul (floatOfInt .f64 ((na + nb : Nat) : Int)) big) big) C24) = q at hle ⊢
    clear o1 o2 av dl dh ll h1 h2 a1 a2 b1 b2 b3 b4 b5 smallN nMp q5
    grind) with e | e
  · rw [o1.2 e]; rfl
  · rw [o2.2 e]; rfl
end Go.Proofs.Qxb6608579a
