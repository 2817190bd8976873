/- The doubles in their order: what a rung stands for, and that rounding finds the nearest rung. -/
import Derived.Test.Qxb6608579aRound
namespace Go.Proofs.Qxb6608579a
open Ieee

/-- What the rung R of the doubles stands for. -/
def gval (R : Nat) : Rat := if R < 4503599627370496 then (R : Rat) * p2 (-1074) else ((4503599627370496 + R % 4503599627370496 : Nat) : Rat) * p2 (-1074 + ((R / 4503599627370496 - 1 : Nat) : Int))

theorem gval_parts (e kept : Nat) (h1 : kept ≤ 9007199254740992) (h2 : 1 ≤ e → 4503599627370496 ≤ kept) : gval (e * 4503599627370496 + kept) = (kept : Rat) * p2 (-1074 + (e : Int)) := by
  unfold gval
  by_cases h : e * 4503599627370496 + kept < 4503599627370496
  · rw [if_pos h]
    have he : e = 0 := by omega
    subst he
    simp
  · rw [if_neg h]
    by_cases h3 : kept = 9007199254740992
    · subst h3
      have e1 : (e * 4503599627370496 + 9007199254740992) % 4503599627370496 = 0 := by omega
      have e2 : (e * 4503599627370496 + 9007199254740992) / 4503599627370496 - 1 = e + 1 := by omega
      rw [e1, e2, show (-1074 + ((e + 1 : Nat) : Int)) = (-1074 + (e : Int)) + 1 by omega, p2_succ]
      have f1 : ((4503599627370496 + 0 : Nat) : Rat) = 4503599627370496 := rfl
      have f2 : ((9007199254740992 : Nat) : Rat) = 9007199254740992 := rfl
      rw [f1, f2]
      grind
    · have hk : 4503599627370496 ≤ kept := by
        rcases Nat.lt_or_ge 0 e with he | he
        · exact h2 he
        · omega
      have e1 : 4503599627370496 + (e * 4503599627370496 + kept) % 4503599627370496 = kept := by omega
      have e2 : (e * 4503599627370496 + kept) / 4503599627370496 - 1 = e := by omega
      rw [e1, e2]

theorem gval_succ (R : Nat) : gval (R + 1) = gval R + p2 (-1074 + ((R / 4503599627370496 - 1 : Nat) : Int)) := by
  obtain ⟨e, kept, hR, h1, h2, h3⟩ : ∃ e kept, R = e * 4503599627370496 + kept ∧ kept < 9007199254740992 ∧ (1 ≤ e → 4503599627370496 ≤ kept) ∧ R / 4503599627370496 - 1 = e := by
    by_cases h : R < 4503599627370496
    · exact ⟨0, R, by omega, by omega, by omega, by omega⟩
    · exact ⟨R / 4503599627370496 - 1, 4503599627370496 + R % 4503599627370496, by omega, by omega, by omega, rfl⟩
  rw [h3, hR, Nat.add_assoc, gval_parts e (kept + 1) (by omega) (by omega), gval_parts e kept (by omega) h2, Rat.natCast_add]
  have : ((1 : Nat) : Rat) = 1 := rfl
  rw [this]
  grind

theorem gval_lt (R : Nat) : gval R < gval (R + 1) := by
  have := p2_pos (-1074 + ((R / 4503599627370496 - 1 : Nat) : Int))
  rw [gval_succ]
  grind

theorem gval_mono {R S : Nat} (h : R ≤ S) : gval R ≤ gval S := by
  induction S with
  | zero => rw [show R = 0 by omega]; exact Rat.le_refl
  | succ n ih =>
    by_cases h' : R = n + 1
    · rw [h']; exact Rat.le_refl
    · have := ih (by omega)
      have := gval_lt n
      grind

theorem gval_nonneg (R : Nat) : 0 ≤ gval R := by
  have h := gval_mono (Nat.zero_le R)
  have h0 : gval 0 = 0 := by unfold gval; rw [if_pos (by decide)]; grind
  rw [h0] at h
  exact h

/-- The rung R is the nearest to v, ties to even. -/
structure IsRnd (v : Rat) (R : Nat) : Prop where
  up : 2 * v ≤ gval R + gval (R + 1)
  upTie : 2 * v = gval R + gval (R + 1) → R % 2 = 0
  down : ∀ Q, R = Q + 1 → gval Q + gval R ≤ 2 * v
  downTie : ∀ Q, R = Q + 1 → gval Q + gval R = 2 * v → R % 2 = 0

theorem IsRnd.mono {v w : Rat} {R S : Nat} (h : IsRnd v R) (k : IsRnd w S) (hvw : v ≤ w) : R ≤ S := by
  rcases Nat.lt_or_ge S R with h' | h'
  · exfalso
    obtain ⟨Q, rfl⟩ : ∃ Q, R = Q + 1 := ⟨R - 1, by omega⟩
    have a1 := h.down Q rfl
    have a2 := k.up
    have m1 := gval_mono (show S ≤ Q by omega)
    have m2 := gval_mono (show S + 1 ≤ Q + 1 by omega)
    by_cases hS : S = Q
    · subst hS
      have t1 := k.upTie (by grind)
      have t2 := h.downTie S rfl (by grind)
      omega
    · have m3 := gval_mono (show S + 1 ≤ Q by omega)
      have m4 := gval_lt Q
      have m5 := gval_lt S
      grind
  · exact h'

theorem infRung_eq : double.infRung = 9218868437227405312 := by decide

theorem round_spec (neg : Bool) (mag : Nat) (place : Int) (hV : (mag : Rat) * p2 place < p2 950) :
    ∃ R, double.nearest neg mag place = double.word neg R ∧ R < 9218868437227405312 ∧ IsRnd ((mag : Rat) * p2 place) R ∧
      2 * (gval R - (mag : Rat) * p2 place) ≤ p2 (-52) * ((mag : Rat) * p2 place) + p2 (-1074) ∧ 2 * ((mag : Rat) * p2 place - gval R) ≤ p2 (-52) * ((mag : Rat) * p2 place) + p2 (-1074) ∧
      (mag = 0 → R = 0) := by
  by_cases hm : mag = 0
  · subst hm
    have g0 : gval 0 = 0 := by unfold gval; rw [if_pos (by decide)]; grind
    have g1 := gval_lt 0
    have z : ((0 : Nat) : Rat) * p2 place = 0 := by have : ((0 : Nat) : Rat) = 0 := rfl; rw [this]; grind
    have pp := p2_pos (-1074)
    refine ⟨0, ?_, by decide, ⟨?_, ?_, ?_, ?_⟩, ?_, ?_, fun _ => rfl⟩
    · unfold Format.nearest; rw [if_pos rfl]
    · rw [z]; grind
    · intro _; rfl
    · intro Q h; omega
    · intro Q h; omega
    · rw [z, g0]; grind
    · rw [z, g0]; grind
  · obtain ⟨kept, hn, k1, k2, d1, d2, d3, d4, v1, v2⟩ := nearest_parts neg mag place hm
    generalize hlast : lastOf mag place = last at *
    have hge : -1074 ≤ last := by rw [← hlast]; unfold lastOf; omega
    obtain ⟨e, he⟩ : ∃ e : Nat, last = -1074 + (e : Int) := ⟨(last + 1074).toNat, by omega⟩
    have he2 : (last + 1074).toNat = e := by omega
    rw [he2, infRung_eq] at hn
    have hU : 0 < p2 last := p2_pos _
    have k2' : 1 ≤ e → 4503599627370496 ≤ kept := fun h => k2 (by omega)
    have hG : gval (e * 4503599627370496 + kept) = (kept : Rat) * p2 last := by rw [gval_parts e kept k1 k2', he]
    have hbig : e ≤ 1972 := by
      rcases Nat.lt_or_ge 1972 e with h | h
      · exfalso
        have a1 := v1 (by omega)
        have a2 := p2_mono (show (899 : Int) ≤ last by omega)
        have a3 : p2 950 = 2251799813685248 * p2 899 := by decide +kernel
        have a4 := p2_pos 899
        grind
      · exact h
    generalize hV2 : (mag : Rat) * p2 place = V at *
    obtain ⟨R, hR⟩ : ∃ R, R = e * 4503599627370496 + kept := ⟨_, rfl⟩
    rw [← hR] at hn hG
    have hpar : kept % 2 = 0 → R % 2 = 0 := fun h => by omega
    have hup : p2 last ≤ p2 (-1074 + ((R / 4503599627370496 - 1 : Nat) : Int)) := p2_mono (by
      rw [he, hR]
      rcases Nat.lt_or_ge 0 e with h | h
      · have := k2' h; omega
      · omega)
    have hsucc := gval_succ R
    have l52 : p2 52 * p2 (-52) = 1 := by decide +kernel
    have l52' : p2 52 = 4503599627370496 := by decide +kernel
    have herr : p2 last ≤ p2 (-52) * V + p2 (-1074) := by
      by_cases h : -1074 < last
      · have a1 := v1 h
        have a2 := Rat.mul_le_mul_of_nonneg_left a1 (Rat.le_of_lt (p2_pos (-52)))
        have a3 := p2_pos (-1074)
        have a4 : p2 (-52) * (4503599627370496 * p2 last) = p2 last := by
          rw [← Rat.mul_assoc, Rat.mul_comm (p2 (-52)), ← l52', l52, Rat.one_mul]
        rw [a4] at a2
        exact Rat.le_trans a2 (by grind)
      · have : last = -1074 := by omega
        rw [this]
        have a1 : 0 ≤ V := by
          rw [← hV2]
          exact Rat.mul_nonneg (Rat.natCast_le_natCast.2 (Nat.zero_le mag)) (Rat.le_of_lt (p2_pos _))
        have := Rat.mul_nonneg (Rat.le_of_lt (p2_pos (-52))) a1
        grind
    refine ⟨R, by rw [hn, Nat.min_eq_left (by omega)], by omega, ⟨?_, ?_, ?_, ?_⟩, ?_, ?_, fun h => absurd h hm⟩
    · grind
    · intro h; exact hpar (d3 (by grind))
    · intro Q hQ
      have hs := gval_succ Q
      rw [← hQ] at hs
      by_cases hc : 1 ≤ e ∧ kept = 4503599627370496
      · obtain ⟨h1, h2⟩ := hc
        have a1 := v1 (by omega)
        have a2 := p2_pos (-1074 + ((Q / 4503599627370496 - 1 : Nat) : Int))
        rw [h2] at hG
        have f1 : ((4503599627370496 : Nat) : Rat) = 4503599627370496 := rfl
        rw [f1] at hG
        grind
      · have hq : Q / 4503599627370496 - 1 = e := by
          rcases Nat.lt_or_ge 0 e with h | h
          · have := k2' h; omega
          · omega
        rw [hq, ← he] at hs
        grind
    · intro Q hQ ht
      have hs := gval_succ Q
      rw [← hQ] at hs
      by_cases hc : 1 ≤ e ∧ kept = 4503599627370496
      · exfalso
        obtain ⟨h1, h2⟩ := hc
        have a1 := v1 (by omega)
        have a2 := p2_pos (-1074 + ((Q / 4503599627370496 - 1 : Nat) : Int))
        rw [h2] at hG
        have f1 : ((4503599627370496 : Nat) : Rat) = 4503599627370496 := rfl
        rw [f1] at hG
        grind
      · have hq : Q / 4503599627370496 - 1 = e := by
          rcases Nat.lt_or_ge 0 e with h | h
          · have := k2' h; omega
          · omega
        rw [hq, ← he] at hs
        exact hpar (d4 (by grind))
    · grind
    · grind
end Go.Proofs.Qxb6608579a
