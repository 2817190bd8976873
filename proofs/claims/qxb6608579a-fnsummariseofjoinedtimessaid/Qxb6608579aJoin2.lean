/- Joined times: the gap's term, and the two tests. -/
import Derived.Test.Qxb6608579aJoin
namespace Go.Proofs.Qxb6608579a
open Ieee

theorem sc_num {c : Rat} (h1 : 1 ≤ c) (h2 : c ≤ 1000000) : Sc c := by
  refine ⟨.inr ?_, ?_⟩
  · have : p2 (-1000) ≤ 1 := by decide +kernel
    grind
  · have : 1000000 < p2 900 := by decide +kernel
    grind

theorem share_pure {a b n G : Rat} (hA : 1 ≤ a) (hB : 1 ≤ b) (e : n = a + b) (hG : G * n = a * b) : 0 ≤ G ∧ G ≤ n := by
  have hab : 0 ≤ a * b := Rat.mul_nonneg (by grind) (by grind)
  have haa : 0 ≤ a * a := Rat.mul_nonneg (by grind) (by grind)
  have hbb : 0 ≤ b * b := Rat.mul_nonneg (by grind) (by grind)
  constructor
  · refine le_cancel (N := n) (by grind) ?_
    rw [hG]; grind
  · refine le_cancel (N := n) (by grind) ?_
    rw [hG, e]; grind

theorem gap_pure {μ ν mx my g a b n E : Rat} (e : n = a + b) (ml : μ - (2 * a + 6) * E ≤ mx) (mh : mx ≤ μ + (2 * a + 6) * E) (ol : ν - (2 * b + 6) * E ≤ my) (oh : my ≤ ν + (2 * b + 6) * E)
    (gl : mx - my - 3 * E ≤ g) (gh : g ≤ mx - my + 3 * E) : g - (μ - ν) ≤ (2 * n + 15) * E ∧ (μ - ν) - g ≤ (2 * n + 15) * E := by
  subst e
  constructor <;> grind

theorem gap_size {μ ν mx my a b n E M : Rat} (e : n = a + b) (hE : 0 ≤ E) (ha : 1 ≤ a) (hb : 1 ≤ b) (hs : (2 * n + 30) * E ≤ M / 4) (p1 : -M ≤ μ) (p2 : μ ≤ M) (q1 : -M ≤ ν) (q2 : ν ≤ M)
    (ml : μ - (2 * a + 6) * E ≤ mx) (mh : mx ≤ μ + (2 * a + 6) * E) (ol : ν - (2 * b + 6) * E ≤ my) (oh : my ≤ ν + (2 * b + 6) * E) : -(3 * M) ≤ mx - my ∧ mx - my ≤ 3 * M := by
  have k1 := Rat.mul_nonneg (show 0 ≤ a by grind) hE
  have k2 := Rat.mul_nonneg (show 0 ≤ b by grind) hE
  subst e
  constructor <;> grind

theorem gap_last {z r g G γ n E M : Rat} (x1 : r * g - G * γ * γ ≤ n * ((2 * n + 30) * E) * (3 * M) + n * (2 * M) * ((2 * n + 15) * E)) (x2 : G * γ * γ - r * g ≤ n * ((2 * n + 30) * E) * (3 * M) + n * (2 * M) * ((2 * n + 15) * E))
    (zl : r * g - 9 * (n * (E * M)) ≤ z) (zh : z ≤ r * g + 9 * (n * (E * M))) : G * γ * γ - n * ((10 * n + 129) * (E * M)) ≤ z ∧ z ≤ G * γ * γ + n * ((10 * n + 129) * (E * M)) := by
  constructor <;> grind

def gapW (x y : Nat → Nat) (na nb : Nat) : Nat := fsub (meanW x na) (meanW y nb)
def shareW (na nb : Nat) : Nat := fdiv (fmul (floatOfInt .f64 (na : Int)) (floatOfInt .f64 (nb : Int))) (floatOfInt .f64 ((na + nb : Nat) : Int))

theorem share_near (na nb : Nat) (ha : 1 ≤ na) (hb : 1 ≤ nb) (hn : na + nb ≤ 131072) :
    double.mul (floatOfInt .f64 (na : Int)) (floatOfInt .f64 (nb : Int)) = some (fmul (floatOfInt .f64 (na : Int)) (floatOfInt .f64 (nb : Int))) ∧
    double.div (fmul (floatOfInt .f64 (na : Int)) (floatOfInt .f64 (nb : Int))) (floatOfInt .f64 ((na + nb : Nat) : Int)) = some (shareW na nb) ∧
    ∃ G : Rat, G * ((na + nb : Nat) : Rat) = (na : Rat) * (nb : Rat) ∧ 0 ≤ G ∧ G ≤ ((na + nb : Nat) : Rat) ∧ Near (shareW na nb) G (3 * (eps * ((na + nb : Nat) : Rat))) := by
  obtain ⟨af, av⟩ := ofNat_exact na (by omega)
  obtain ⟨bf, bv⟩ := ofNat_exact nb (by omega)
  obtain ⟨nf, nv⟩ := ofNat_exact (na + nb) (by omega)
  have hA : (1 : Rat) ≤ (na : Rat) := Rat.natCast_le_natCast.2 ha
  have hB : (1 : Rat) ≤ (nb : Rat) := Rat.natCast_le_natCast.2 hb
  have e : ((na + nb : Nat) : Rat) = (na : Rat) + (nb : Rat) := Rat.natCast_add na nb
  have hN : ((na + nb : Nat) : Rat) ≤ 131072 := Rat.natCast_le_natCast.2 hn
  obtain ⟨m1, -, m3⟩ := mul_near af bf
  have hlt : na * nb < 9007199254740992 := by
    have : na * nb ≤ 131072 * 131072 := Nat.mul_le_mul (by omega) (by omega)
    omega
  obtain ⟨pf, pv⟩ := m3 (na * nb) hlt (by rw [av, bv, Rat.natCast_mul])
  rw [Rat.natCast_mul] at pv
  generalize hn' : ((na + nb : Nat) : Rat) = n at *
  generalize (na : Rat) = a at *
  generalize (nb : Rat) = b at *
  have hne : n ≠ 0 := by grind
  obtain ⟨d1, d2⟩ := div_near pf nf (by rw [nv]; exact hne)
  obtain ⟨G, hG⟩ : ∃ G : Rat, G = a * b / n := ⟨_, rfl⟩
  have hG2 : G * n = a * b := by rw [hG]; grind
  obtain ⟨g0, g1⟩ := share_pure hA hB e hG2
  have s1 : 1 ≤ 2 * n := by clear d2 m3; grind
  have s2 : 2 * n ≤ 1000000 := by clear d2 m3; grind
  have s3 : -n ≤ G := by clear d2 m3; grind
  obtain ⟨near, -⟩ := d2 n G (sc_num s1 s2) (by rw [pv, nv]; exact hG2.symm) s3 g1
  exact ⟨m1, d1, G, hG2, g0, g1, near⟩

theorem gap_near {x y : Nat → Nat} {na nb : Nat} {M : Rat} (hx : Within x na M) (hy : Within y nb M) (hn : na + nb ≤ 131072) :
    double.sub (meanW x na) (meanW y nb) = some (gapW x y na nb) ∧
    double.mul (shareW na nb) (gapW x y na nb) = some (fmul (shareW na nb) (gapW x y na nb)) ∧
    double.mul (fmul (shareW na nb) (gapW x y na nb)) (gapW x y na nb) = some (fmul (fmul (shareW na nb) (gapW x y na nb)) (gapW x y na nb)) ∧
    ∃ G : Rat, G * ((na + nb : Nat) : Rat) = (na : Rat) * (nb : Rat) ∧ 0 ≤ G ∧ G ≤ ((na + nb : Nat) : Rat) ∧
      Near (fmul (fmul (shareW na nb) (gapW x y na nb)) (gapW x y na nb)) (G * (meanR x na - meanR y nb) * (meanR x na - meanR y nb)) (((na + nb : Nat) : Rat) * ((10 * ((na + nb : Nat) : Rat) + 129) * (eps * (M * M)))) := by
  obtain ⟨a1, _⟩ := hx.N
  obtain ⟨b1, _⟩ := hy.N
  obtain ⟨-, -, G, hG, g0, g1, wf, wl, wh⟩ := share_near na nb hx.pos hy.pos hn
  obtain ⟨-, mf, ml, mh⟩ := mean_near hx
  obtain ⟨-, of, ol, oh⟩ := mean_near hy
  obtain ⟨p1, p2'⟩ := meanR_le hx
  obtain ⟨q1, q2⟩ := meanR_le hy
  have e : ((na + nb : Nat) : Rat) = (na : Rat) + (nb : Rat) := Rat.natCast_add na nb
  have hN : ((na + nb : Nat) : Rat) ≤ 131072 := Rat.natCast_le_natCast.2 hn
  have hM := hx.ok.nonneg
  have hMM := Rat.mul_nonneg hM hM
  have eM : 0 ≤ eps * M := Rat.mul_nonneg (Rat.le_of_lt eps_pos) hM
  have eMM : 0 ≤ eps * (M * M) := Rat.mul_nonneg (Rat.le_of_lt eps_pos) hMM
  obtain ⟨s1, s2⟩ := sub_near mf of
  generalize meanR x na = μ at *
  generalize meanR y nb = ν at *
  generalize ((na + nb : Nat) : Rat) = n at *
  generalize (na : Rat) = a at *
  generalize (nb : Rat) = b at *
  have nM := Rat.mul_le_mul_of_nonneg_left hN eM
  have small0 := Rat.mul_le_mul_of_nonneg_left (show (2 * 131072 + 30) * eps ≤ 1 / 4 by decide +kernel) hM
  have small : (2 * n + 30) * (eps * M) ≤ M / 4 := by clear s2; grind
  have p100 : (10 * 131072 : Rat) ≤ p2 100 := by decide +kernel
  have n1 : (1 : Rat) ≤ n := by clear s2; grind
  have hn0 : (0 : Rat) ≤ n := by clear s2; grind
  have sc3 : Sc (3 * M) := sc_M hx.ok (by decide) (by decide +kernel)
  have sc6 : Sc (6 * n * M) := sc_M hx.ok (by clear s2; grind) (by clear s2; grind)
  have sc9 : Sc (9 * n * (M * M)) := sc_MM hx.ok (by clear s2; grind) (by clear s2; grind)
  clear nM small0 p100
  -- the gap
  obtain ⟨y1, y2⟩ := gap_size e eM a1 b1 small p1 p2' q1 q2 ml mh ol oh
  obtain ⟨⟨gf, gl, gh⟩, -⟩ := s2 (3 * M) sc3 y1 y2
  clear s2 y1 y2
  have hg : gapW x y na nb = fsub (meanW x na) (meanW y nb) := rfl
  rw [← hg] at gf gl gh
  obtain ⟨t1, t2, -⟩ := mul_near wf gf
  generalize hgv : val (gapW x y na nb) = g at *
  generalize val (meanW x na) = mx at *
  generalize val (meanW y nb) = my at *
  rw [show eps * (3 * M) = 3 * (eps * M) by clear t2; grind] at gl gh
  obtain ⟨d1, d2⟩ := gap_pure e ml mh ol oh gl gh
  clear gl gh ml mh ol oh
  have c1 : -(2 * M) ≤ μ - ν := by clear t2; grind
  have c2 : μ - ν ≤ 2 * M := by clear t2; grind
  clear p1 p2' q1 q2
  generalize μ - ν = γ at *
  have c3 : -(3 * M) ≤ g := by clear t2; grind
  have c4 : g ≤ 3 * M := by clear t2; grind
  -- the share times the gap
  generalize hw : val (shareW na nb) = w at *
  have e3 : 3 * eps ≤ 1 := by decide +kernel
  have e4 := Rat.mul_le_mul_of_nonneg_left e3 hn0
  have w1 : -(2 * n) ≤ w := by clear t2; grind
  have w2 : w ≤ 2 * n := by clear t2; grind
  obtain ⟨k1, k2⟩ := mul_abs_le (p := w) (q := g) (P := 2 * n) (Q := 3 * M) w1 w2 c3 c4
  rw [show 2 * n * (3 * M) = 6 * n * M by clear t2; grind] at k1 k2
  obtain ⟨⟨rf, rl, rh⟩, -⟩ := t2 (6 * n * M) sc6 k1 k2
  clear t2
  obtain ⟨f1, f2⟩ := prod_diff (a := w) (y := G) (b := g) (z := γ) (da := 3 * (eps * n)) (db := (2 * n + 15) * (eps * M)) (A := 3 * M) (Y := n) (by grind) (by grind) d1 d2 c3 c4 (by grind) g1
  obtain ⟨u1, u2, -⟩ := mul_near rf gf
  rw [hgv] at u2
  generalize val (fmul (shareW na nb) (gapW x y na nb)) = r at *
  have h1 : r - G * γ ≤ n * ((2 * n + 30) * (eps * M)) := by clear u2 d1 d2 small k1 k2 e4 wl wh w1 w2; grind
  have h2 : G * γ - r ≤ n * ((2 * n + 30) * (eps * M)) := by clear u2 d1 d2 small k1 k2 e4 wl wh w1 w2; grind
  clear f1 f2 rl rh k1 k2 e4 wl wh w1 w2
  obtain ⟨l1, l2⟩ := mul_abs_le (p := G) (q := γ) (P := n) (Q := 2 * M) (by clear u2; grind) g1 c1 c2
  have hs : n * ((2 * n + 30) * (eps * M)) ≤ n * M := by
    refine Rat.mul_le_mul_of_nonneg_left ?_ hn0
    clear u2
    grind
  have r1 : -(3 * n * M) ≤ r := by clear u2 small d1 d2; grind
  have r2 : r ≤ 3 * n * M := by clear u2 small d1 d2; grind
  obtain ⟨v1, v2⟩ := mul_abs_le (p := r) (q := g) (P := 3 * n * M) (Q := 3 * M) r1 r2 c3 c4
  rw [show 3 * n * M * (3 * M) = 9 * n * (M * M) by clear u2 small d1 d2; grind] at v1 v2
  obtain ⟨⟨zf, zl, zh⟩, -⟩ := u2 (9 * n * (M * M)) sc9 v1 v2
  clear u2
  obtain ⟨x1, x2⟩ := prod_diff (a := r) (y := G * γ) (b := g) (z := γ) (da := n * ((2 * n + 30) * (eps * M))) (db := (2 * n + 15) * (eps * M)) (A := 3 * M) (Y := n * (2 * M)) h1 h2 d1 d2 c3 c4 l1 l2
  have q9 : eps * (9 * n * (M * M)) = 9 * (n * (eps * M * M)) := by clear x1 x2 h1 h2 d1 d2 l1 l2 v1 v2 r1 r2 hs small zl zh; grind
  rw [q9] at zl zh
  obtain ⟨o1, o2⟩ := gap_last x1 x2 zl zh
  rw [show eps * M * M = eps * (M * M) by clear x1 x2 h1 h2 d1 d2 l1 l2 v1 v2 r1 r2 hs small zl zh o1 o2; grind] at o1 o2
  exact ⟨s1, t1, u1, G, hG, g0, g1, ⟨zf, o1, o2⟩⟩
end Go.Proofs.Qxb6608579a
