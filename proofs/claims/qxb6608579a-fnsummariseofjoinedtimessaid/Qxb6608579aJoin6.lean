/- Joined times: all that the walk asks. -/
import Derived.Test.Qxb6608579aJoin5
namespace Go.Proofs.Qxb6608579a
open Ieee

def joinI (ts us : Nat → Int) (na : Nat) (i : Nat) : Int := if i < na then ts i else us (i - na)

theorem joinI_left (ts us : Nat → Int) {na i : Nat} (h : i < na) : joinI ts us na i = ts i := if_pos h
theorem joinI_right (ts us : Nat → Int) (na i : Nat) : joinI ts us na (na + i) = us i := by
  unfold joinI
  rw [if_neg (by omega), Nat.add_sub_cancel_left]

theorem joined_ms (ts us : Nat → Int) (na nb : Nat) : Joined (fun i => ms (joinI ts us na i)) (fun i => ms (ts i)) (fun i => ms (us i)) na nb :=
  ⟨fun _ hi => congrArg ms (joinI_left ts us hi), fun i _ => congrArg ms (joinI_right ts us na i)⟩

theorem fits_join (ts us : Nat → Int) (na nb : Nat) (h1 : ∀ i, i < na → Fits (ts i)) (h2 : ∀ i, i < nb → Fits (us i)) : ∀ i, i < na + nb → Fits (joinI ts us na i) := fun i hi => by
  unfold joinI
  split
  · exact h1 i (by assumption)
  · exact h2 _ (by omega)

/-- The greatest of the joined is the greater of the two. -/
theorem most_join {X x y : Nat → Nat} {na nb : Nat} (hJ : Joined X x y na nb) (hx : ∀ i, i < na → Fin (x i)) (hy : ∀ i, i < nb → Fin (y i)) :
    double.order (mostTo X (na + nb)) (if double.order (mostTo y nb) (mostTo x na) == some .gt then mostTo y nb else mostTo x na) = some .eq := by
  have hX : ∀ i, i < na + nb → Fin (X i) := fun i hi => by
    by_cases h : i < na
    · rw [hJ.1 i h]; exact hx i h
    · have := hJ.2 (i - na) (by omega)
      rw [show na + (i - na) = i by omega] at this
      rw [this]; exact hy _ (by omega)
  obtain ⟨af, a0, a1, a2⟩ := most_spec x na hx
  obtain ⟨bf, b0, b1, b2⟩ := most_spec y nb hy
  obtain ⟨cf, c0, c1, c2⟩ := most_spec X (na + nb) hX
  have h1 : val (mostTo x na) ≤ val (mostTo X (na + nb)) := by
    rcases a2 with e | ⟨i, hi, e⟩
    · rw [e]; exact c0
    · rw [e, ← hJ.1 i hi]; exact c1 i (by omega)
  have h2 : val (mostTo y nb) ≤ val (mostTo X (na + nb)) := by
    rcases b2 with e | ⟨i, hi, e⟩
    · rw [e]; exact c0
    · rw [e, ← hJ.2 i hi]; exact c1 _ (by omega)
  have h3 : val (mostTo X (na + nb)) ≤ val (mostTo x na) ∨ val (mostTo X (na + nb)) ≤ val (mostTo y nb) := by
    rcases c2 with e | ⟨i, hi, e⟩
    · rw [e]; exact .inl a0
    · by_cases h : i < na
      · left; rw [e, hJ.1 i h]; exact a1 i h
      · right
        have := hJ.2 (i - na) (by omega)
        rw [show na + (i - na) = i by omega] at this
        rw [e, this]; exact b1 _ (by omega)
  clear a1 a2 b1 b2 c1 c2
  obtain ⟨_, _, o3⟩ := order_val bf af
  by_cases hc : double.order (mostTo y nb) (mostTo x na) = some .gt
  · rw [if_pos (by rw [hc]; rfl)]
    refine (order_val cf bf).2.1.2 ?_
    have := o3.1 hc
    clear o3
    grind
  · rw [if_neg (by simpa using hc)]
    refine (order_val cf af).2.1.2 ?_
    have : ¬ val (mostTo x na) < val (mostTo y nb) := fun h' => hc (o3.2 h')
    clear o3
    grind

/-- .. and it is what zzb1MostMs gives. -/
theorem top_join (ts us : Nat → Int) (na nb : Nat) (r : Nat) (h1 : ∀ i, i < na → Fits (ts i)) (h2 : ∀ i, i < nb → Fits (us i)) (h : IsTop ts na us nb r) :
    double.order (mostTo (fun i => ms (joinI ts us na i)) (na + nb)) r = some .eq := by
  refine top_eq (joinI ts us na) (na + nb) (fits_join ts us na nb h1 h2) r ?_
  obtain ⟨f, t, hB, hr⟩ := h
  rcases hB with ⟨hf, hn, hm⟩ | ⟨hf, k1, k2, k3⟩
  · rcases hr with ⟨hr, _⟩ | ⟨_, hf', _⟩
    · exact .inl ⟨hr, fun i hi => by omega⟩
    · rw [hf] at hf'; cases hf'
  · have hall : ∀ i, i < na + nb → joinI ts us na i ≤ t := fun i hi => by
      unfold joinI
      split
      · exact k1 i (by assumption)
      · exact k2 _ (by omega)
    obtain ⟨j, hj, ej⟩ : ∃ j, j < na + nb ∧ t = joinI ts us na j := by
      rcases k3 with ⟨i, hi, e⟩ | ⟨i, hi, e⟩
      · exact ⟨i, by omega, by rw [joinI_left ts us hi]; exact e⟩
      · exact ⟨na + i, by omega, by rw [joinI_right]; exact e⟩
    rcases hr with ⟨hr, hf' | h0⟩ | ⟨hr, _, h0⟩
    · rw [hf] at hf'; cases hf'
    · exact .inl ⟨hr, fun i hi => Int.le_trans (hall i hi) h0⟩
    · exact .inr ⟨j, hj, by rw [← ej]; exact h0, by rw [← ej]; exact hall, by rw [← ej]; exact hr⟩

/-- What the greatest magnitude of both is good for. -/
theorem within_both (ts us : Nat → Int) (na nb : Nat) (ha : 1 ≤ na) (hb : 1 ≤ nb) (hn : na + nb ≤ 131072) (h1 : ∀ i, i < na → Fits (ts i)) (h2 : ∀ i, i < nb → Fits (us i)) :
    Fin (bigTo (bigTo 0 (fun i => ms (ts i)) na) (fun i => ms (us i)) nb) ∧
    Within (fun i => ms (ts i)) na (val (bigTo (bigTo 0 (fun i => ms (ts i)) na) (fun i => ms (us i)) nb)) ∧
    Within (fun i => ms (us i)) nb (val (bigTo (bigTo 0 (fun i => ms (ts i)) na) (fun i => ms (us i)) nb)) ∧
    Within (fun i => ms (joinI ts us na i)) (na + nb) (val (bigTo (bigTo 0 (fun i => ms (ts i)) na) (fun i => ms (us i)) nb)) := by
  have f1 : ∀ i, i < na → Fin (ms (ts i)) := fun i hi => (ms_near _ (h1 i hi).abs).2.2.1
  have f2 : ∀ i, i < nb → Fin (ms (us i)) := fun i hi => (ms_near _ (h2 i hi).abs).2.2.1
  obtain ⟨sf, s0, s1, s2⟩ := big_spec 0 fin_zero (by rw [val_zero]; exact Rat.le_refl) (fun i => ms (ts i)) na f1
  rw [val_zero] at s0 s2
  obtain ⟨bf, b0, b1, b2⟩ := big_spec (bigTo 0 (fun i => ms (ts i)) na) sf s0 (fun i => ms (us i)) nb f2
  generalize bigTo 0 (fun i => ms (ts i)) na = S at *
  generalize bigTo S (fun i => ms (us i)) nb = B at *
  have hB0 : 0 ≤ val B := Rat.le_trans s0 b0
  have ok : MOk (val B) := by
    rcases b2 with e | ⟨i, hi, e⟩
    · rw [e]
      rcases s2 with e' | ⟨i, hi, e'⟩
      · rw [e']; exact ⟨.inl rfl, by decide +kernel⟩
      · exact ms_size (h1 i hi) _ e' s0
    · exact ms_size (h2 i hi) _ e hB0
  have r1 : ∀ i, i < na → Fin (ms (ts i)) ∧ -val B ≤ val (ms (ts i)) ∧ val (ms (ts i)) ≤ val B := fun i hi => by
    obtain ⟨k1, k2⟩ := s1 i hi
    refine ⟨f1 i hi, ?_, Rat.le_trans k2 b0⟩
    clear s1 b1
    generalize val (ms (ts i)) = z at *
    clear f1 f2 h1 h2 s2 b2
    grind
  have r2 : ∀ i, i < nb → Fin (ms (us i)) ∧ -val B ≤ val (ms (us i)) ∧ val (ms (us i)) ≤ val B := fun i hi => ⟨f2 i hi, b1 i hi⟩
  refine ⟨bf, ⟨ok, ha, by omega, r1⟩, ⟨ok, hb, by omega, r2⟩, ⟨ok, by omega, hn, fun i hi => ?_⟩⟩
  show Fin (ms (joinI ts us na i)) ∧ _
  by_cases h : i < na
  · rw [joinI_left ts us h]; exact r1 i h
  · have := joinI_right ts us na (i - na)
    rw [show na + (i - na) = i by omega] at this
    rw [this]; exact r2 _ (by omega)

/-- Every operation of the two tests, and what the tests say. -/
theorem plan {X x y : Nat → Nat} {na nb : Nat} (BIG : Nat) (hbf : Fin BIG) (hJ : Joined X x y na nb) (hX : Within X (na + nb) (val BIG)) (hx : Within x na (val BIG)) (hy : Within y nb (val BIG)) :
    ∃ P1 P2 P3 S D T L1, double.mul (meanW X (na + nb)) (floatOfInt .f64 ((na : Int) + (nb : Int))) = some P1 ∧ double.mul (meanW x na) (floatOfInt .f64 (na : Int)) = some P2 ∧ double.mul (meanW y nb) (floatOfInt .f64 (nb : Int)) = some P3 ∧
      double.add P2 P3 = some S ∧ double.sub P1 S = some D ∧ double.mul (floatOfInt .f64 ((na : Int) + (nb : Int))) BIG = some T ∧ double.mul T C28 = some L1 ∧ (double.order (fabs D) L1 == some .gt) = false ∧
    ∃ GAP A1 A2 B1 B2 W5 W6 SH W8 W9 WANT Z1 Z2 DD U L2, double.sub (meanW x na) (meanW y nb) = some GAP ∧ double.mul (floatOfInt .f64 (na : Int)) (sdW x na) = some A1 ∧ double.mul A1 (sdW x na) = some A2 ∧
      double.mul (floatOfInt .f64 (nb : Int)) (sdW y nb) = some B1 ∧ double.mul B1 (sdW y nb) = some B2 ∧ double.add A2 B2 = some W5 ∧ double.mul (floatOfInt .f64 (na : Int)) (floatOfInt .f64 (nb : Int)) = some W6 ∧
      double.div W6 (floatOfInt .f64 ((na : Int) + (nb : Int))) = some SH ∧ double.mul SH GAP = some W8 ∧ double.mul W8 GAP = some W9 ∧ double.add W5 W9 = some WANT ∧
      double.mul (floatOfInt .f64 ((na : Int) + (nb : Int))) (sdW X (na + nb)) = some Z1 ∧ double.mul Z1 (sdW X (na + nb)) = some Z2 ∧ double.sub Z2 WANT = some DD ∧ double.mul T BIG = some U ∧ double.mul U C24 = some L2 ∧
      (double.order (fabs DD) L2 == some .lt || double.order (fabs DD) L2 == some .eq) = true := by
  obtain ⟨m1, -⟩ := meanN hX
  obtain ⟨m2, -⟩ := meanN hx
  obtain ⟨m3, -⟩ := meanN hy
  obtain ⟨m4, m5, m6, m7, m8⟩ := mean_join BIG hbf hJ hX hx hy
  obtain ⟨g1, g2, g3, -⟩ := gap_near hx hy hX.few
  obtain ⟨a1, a2, -⟩ := sdN hx
  obtain ⟨b1, b2, -⟩ := sdN hy
  obtain ⟨z1, z2, -⟩ := sdN hX
  obtain ⟨s1, s2, -⟩ := share_near na nb hx.pos hy.pos hX.few
  obtain ⟨w1, w2, -⟩ := want_join hJ hX hx hy
  obtain ⟨v1, v2, v3, v4⟩ := var_join BIG hbf hJ hX hx hy
  rw [Int.natCast_add] at *
  exact ⟨_, _, _, _, _, _, _, m1, m2, m3, m4, m5, m6, m7, m8, _, _, _, _, _, _, _, _, _, _, _, _, _, _, _, _, g1, a1, a2, b1, b2, w1, s1, s2, g2, g3, w2, z1, z2, v1, v2, v3, v4⟩
end Go.Proofs.Qxb6608579a
