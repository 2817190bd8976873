/- The plain law of FnSummariseWholeAnswer: the mean. -/
import Derived.Test.Qxb6608579aMost
namespace Go.Proofs.Qxb6608579a
open Ieee

def sumI (f : Nat → Int) : Nat → Int
  | 0 => 0
  | k + 1 => sumI f k + f k

theorem sumI_cast (f : Nat → Int) : ∀ k, ((sumI f k : Int) : Rat) = sumR (fun i => ((f i : Int) : Rat)) k
  | 0 => rfl
  | k + 1 => by
    show ((sumI f k + f k : Int) : Rat) = _
    rw [Rat.intCast_add, sumI_cast f k]
    rfl

theorem sumR_congr (f g : Nat → Rat) (n : Nat) (h : ∀ i, i < n → f i = g i) : ∀ k, k ≤ n → sumR f k = sumR g k
  | 0, _ => rfl
  | k + 1, hk => by
    show sumR f k + f k = sumR g k + g k
    rw [sumR_congr f g n h k (by omega), h k (by omega)]

theorem sumR_lin (f g : Nat → Rat) (c : Rat) : ∀ k, sumR (fun i => c * f i + g i) k = c * sumR f k + sumR g k
  | 0 => by show (0 : Rat) = c * 0 + 0; grind
  | k + 1 => by
    show sumR (fun i => c * f i + g i) k + (c * f k + g k) = c * (sumR f k + f k) + (sumR g k + g k)
    rw [sumR_lin f g c k]
    grind

/-- (float64(q) + float64(rem)/float64(n)) / 1e6 -/
def wantMean (q r : Int) (n : Nat) : Nat := fdiv (fadd (floatOfInt .f64 q) (fdiv (floatOfInt .f64 r) (floatOfInt .f64 (n : Int)))) W6

theorem want_near (q r : Int) (n : Nat) (M : Rat) (hM : MOk M) (hn1 : 1 ≤ n) (hn2 : n ≤ 131072) (q1 : -(1100000 * M) ≤ (q : Rat)) (q2 : (q : Rat) ≤ 1100000 * M)
    (r1 : -((n : Rat) * (1100000 * M)) ≤ (r : Rat)) (r2 : (r : Rat) ≤ (n : Rat) * (1100000 * M)) (r3 : -9007199254740992 < r) (r4 : r < 9007199254740992) :
    Fin (floatOfInt .f64 q) ∧ Fin (floatOfInt .f64 r) ∧ Fin (floatOfInt .f64 (n : Int)) ∧
    double.div (floatOfInt .f64 r) (floatOfInt .f64 (n : Int)) = some (fdiv (floatOfInt .f64 r) (floatOfInt .f64 (n : Int))) ∧
    double.add (floatOfInt .f64 q) (fdiv (floatOfInt .f64 r) (floatOfInt .f64 (n : Int))) = some (fadd (floatOfInt .f64 q) (fdiv (floatOfInt .f64 r) (floatOfInt .f64 (n : Int)))) ∧
    double.div (fadd (floatOfInt .f64 q) (fdiv (floatOfInt .f64 r) (floatOfInt .f64 (n : Int)))) W6 = some (wantMean q r n) ∧
    Near (wantMean q r n) (((q : Rat) + (r : Rat) / (n : Rat)) / 1000000) (21 * (eps * M)) := by
  have hM0 := hM.nonneg
  have eM : 0 ≤ eps * M := Rat.mul_nonneg (Rat.le_of_lt eps_pos) hM0
  have eM1 : eps * M * 1000 ≤ M := by
    have := Rat.mul_le_mul_of_nonneg_left (show eps * 1000 ≤ 1 by decide +kernel) hM0
    grind
  have n1 : (1 : Rat) ≤ (n : Rat) := Rat.natCast_le_natCast.2 hn1
  have hN : (0 : Rat) < (n : Rat) := by grind
  have p100 : (8800000 : Rat) ≤ p2 100 := by decide +kernel
  obtain ⟨nf, nv⟩ := ofNat_exact n (by omega)
  obtain ⟨qf, ql, qh, _⟩ := ofInt_near q (1100000 * M) (sc_M hM (by decide) (by grind)) q1 q2
  obtain ⟨rf, rv⟩ := ofInt_exact r r3 r4
  obtain ⟨d1, d2⟩ := div_near rf nf (by rw [nv]; grind)
  obtain ⟨E, hE⟩ : ∃ E : Rat, E = (r : Rat) / (n : Rat) := ⟨_, rfl⟩
  have hE2 : (r : Rat) = E * (n : Rat) := by
    rw [hE]
    have : (n : Rat) ≠ 0 := by grind
    grind
  have e1 : E ≤ 1100000 * M := le_cancel hN (by grind)
  have e2 : -(1100000 * M) ≤ E := le_cancel hN (by grind)
  have hsc1 : Sc (2 * (1100000 * M)) := by
    rw [show 2 * (1100000 * M) = 2200000 * M by grind]
    exact sc_M hM (by decide) (by grind)
  obtain ⟨⟨gf, gl, gh⟩, _⟩ := d2 (1100000 * M) E hsc1 (by rw [rv, nv]; exact hE2) e2 e1
  obtain ⟨a1, a2⟩ := add_near qf gf
  obtain ⟨⟨af, al, ah⟩, _⟩ := a2 (3300000 * M) (sc_M hM (by decide) (by grind)) (by grind) (by grind)
  obtain ⟨c1, c2⟩ := div_near af fin_W6 (by rw [val_W6]; decide)
  have hsc2 : Sc (2 * (4400000 * M / 1000000)) := by
    rw [show 2 * (4400000 * M / 1000000) = (8800000 / 1000000) * M by grind]
    exact sc_M hM (by decide +kernel) (by grind)
  obtain ⟨⟨zf, zl, zh⟩, _⟩ := c2 (4400000 * M / 1000000) (val (fadd (floatOfInt .f64 q) (fdiv (floatOfInt .f64 r) (floatOfInt .f64 (n : Int)))) / 1000000) hsc2 (by rw [val_W6]; grind) (by grind) (by grind)
  refine ⟨qf, rf, nf, d1, a1, c1, ⟨zf, ?_, ?_⟩⟩
  · show _ ≤ val (fdiv _ _)
    rw [← hE]
    grind
  · show val (fdiv _ _) ≤ _
    rw [← hE]
    grind

/-- 2 ^ -30 -/
abbrev C30 : Nat := 4472074429978902528
theorem read_C30 : double.read C30 = .number false 4503599627370496 (-82) := by decide +kernel
theorem fin_C30 : Fin C30 := ⟨_, _, _, read_C30⟩
theorem val_C30 : val C30 = p2 (-30) := by rw [val_of read_C30]; decide +kernel

/-- The whole numbers of the mean, against the milliseconds' mean. -/
theorem meanR_times (ts : Nat → Int) (n : Nat) (M : Rat) (h : Within (fun i => ms (ts i)) n M) (ht : ∀ i, i < n → Fits (ts i)) (S : Rat) (hS : S = sumR (fun i => ((ts i : Int) : Rat)) n) :
    S / (n : Rat) / 1000000 - meanR (fun i => ms (ts i)) n ≤ 8 * (eps * M) ∧ meanR (fun i => ms (ts i)) n - S / (n : Rat) / 1000000 ≤ 8 * (eps * M) := by
  obtain ⟨n1, n2⟩ := h.N
  have hN : (0 : Rat) < (n : Rat) := by grind
  have hM0 := h.ok.nonneg
  have eM : 0 ≤ eps * M := Rat.mul_nonneg (Rat.le_of_lt eps_pos) hM0
  have hc := sumR_close (fun i => (1 / 1000000) * ((ts i : Int) : Rat) + 0) (fun i => val (ms (ts i))) n (8 * (eps * M)) (fun i hi => by
    obtain ⟨_, _, _, l1, l2, _⟩ := ms_near (ts i) (ht i hi).abs
    have hb := ms_back (ht i hi) (h.all i hi).2.1 (h.all i hi).2.2
    have hb2 := Rat.mul_le_mul_of_nonneg_left hb (Rat.le_of_lt eps_pos)
    constructor <;> grind) n (Nat.le_refl _)
  rw [sumR_lin] at hc
  have hz : ∀ k, sumR (fun _ => (0 : Rat)) k = 0 := fun k => by
    induction k with
    | zero => rfl
    | succ m ih => show sumR (fun _ => (0 : Rat)) m + 0 = 0; rw [ih]; grind
  rw [hz, ← hS] at hc
  obtain ⟨c1, c2⟩ := hc
  have hm := meanR_mul (x := fun i => ms (ts i)) n1
  obtain ⟨E, hE⟩ : ∃ E : Rat, E = S / (n : Rat) := ⟨_, rfl⟩
  have hE2 : S = E * (n : Rat) := by
    rw [hE]
    have : (n : Rat) ≠ 0 := by grind
    grind
  rw [← hE]
  constructor
  · exact le_cancel hN (by grind)
  · exact le_cancel hN (by grind)

/-- The mean is the whole numbers' within rounding: the test says no. -/
theorem mean_test (ts : Nat → Int) (n : Nat) (big : Nat) (hn4 : n ≤ 4096) (hbf : Fin big) (h : Within (fun i => ms (ts i)) n (val big)) (ht : ∀ i, i < n → Fits (ts i)) (q r : Int)
    (hqr : sumI ts n = (n : Int) * q + r) (q1 : -(1100000 * val big) ≤ (q : Rat)) (q2 : (q : Rat) ≤ 1100000 * val big)
    (r1 : -((n : Rat) * (1100000 * val big)) ≤ (r : Rat)) (r2 : (r : Rat) ≤ (n : Rat) * (1100000 * val big)) (r3 : -9007199254740992 < r) (r4 : r < 9007199254740992) :
    double.sub (meanW (fun i => ms (ts i)) n) (wantMean q r n) = some (fsub (meanW (fun i => ms (ts i)) n) (wantMean q r n)) ∧ double.mul big C30 = some (fmul big C30) ∧
    Fin (fsub (meanW (fun i => ms (ts i)) n) (wantMean q r n)) ∧ Fin (fmul big C30) ∧
    (double.order (fabs (fsub (meanW (fun i => ms (ts i)) n) (wantMean q r n))) (fmul big C30) == some .gt) = false := by
  obtain ⟨n1, n2⟩ := h.N
  have n4 : (n : Rat) ≤ 4096 := Rat.natCast_le_natCast.2 hn4
  obtain ⟨_, mf, ml, mh⟩ := mean_near h
  obtain ⟨_, _, _, _, _, _, wf, wl, wh⟩ := want_near q r n (val big) h.ok h.pos h.few q1 q2 r1 r2 r3 r4
  obtain ⟨b1, b2⟩ := meanR_times ts n (val big) h ht _ rfl
  obtain ⟨s1, s2⟩ := sub_near mf wf
  obtain ⟨t1, t2, _⟩ := mul_near hbf fin_C30
  generalize hM : val big = M at *
  have hM0 := h.ok.nonneg
  have eM : 0 ≤ eps * M := Rat.mul_nonneg (Rat.le_of_lt eps_pos) hM0
  have hS : sumR (fun i => ((ts i : Int) : Rat)) n / (n : Rat) = (q : Rat) + (r : Rat) / (n : Rat) := by
    rw [← sumI_cast, hqr, Rat.intCast_add, Rat.intCast_mul, Rat.intCast_natCast]
    have : (n : Rat) ≠ 0 := by grind
    grind
  rw [hS] at b1 b2
  have nm := Rat.mul_le_mul_of_nonneg_left n4 eM
  have em := Rat.mul_le_mul_of_nonneg_left (show 10000 * eps ≤ p2 (-31) by decide +kernel) hM0
  have p31 : p2 (-31) ≤ 1 / 4 := by decide +kernel
  have p31' : p2 (-30) = 2 * p2 (-31) := by decide +kernel
  have pm := Rat.mul_le_mul_of_nonneg_left p31 hM0
  have pm0 := Rat.mul_nonneg (Rat.le_of_lt (p2_pos (-31))) hM0
  have sc1 : Sc M := by have := sc_M (c := 1) h.ok (by decide) (by decide +kernel); rwa [Rat.one_mul] at this
  obtain ⟨⟨sf, sl, sh⟩, _⟩ := s2 M sc1 (by grind) (by grind)
  rw [val_C30] at t2
  obtain ⟨⟨tf, tl, th⟩, _⟩ := t2 M sc1 (by rw [p31']; grind) (by rw [p31']; grind)
  obtain ⟨af, _, _, av, _⟩ := abs_val sf
  refine ⟨s1, t1, sf, tf, ?_⟩
  have hno : ¬ val (fmul big C30) < val (fabs (fsub (meanW (fun i => ms (ts i)) n) (wantMean q r n))) := by
    rw [p31'] at tl
    rcases av with e | e <;> grind
  have := mt (order_val af tf).2.2.1 hno
  simpa using this
end Go.Proofs.Qxb6608579a
