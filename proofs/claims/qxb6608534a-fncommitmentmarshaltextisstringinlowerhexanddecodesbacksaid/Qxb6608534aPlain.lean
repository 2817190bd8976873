/- The plain law: two commitments' hexadecimal texts compare as the commitments do. No Go in sight. -/
import Derived.Lib.HexFns
import Derived.Test.Qxb6608534aCmp
namespace Go.Proofs.Qxb6608534a
open Go.Lib

theorem IsCmp.one {n : Nat} {f g : Nat → Int} {r s : Int} (h : IsCmp n f g r) (k : IsCmp n f g s) : r = s := by
  rcases h with ⟨h1, h2⟩ | ⟨j, hj, he, h3⟩
  · rcases k with ⟨k1, _⟩ | ⟨i, hi, _, k3⟩
    · rw [h1, k1]
    · have := h2 i hi
      omega
  · rcases k with ⟨_, k2⟩ | ⟨i, hi, ke, k3⟩
    · have := k2 j hj
      omega
    · rcases Nat.lt_trichotomy i j with hij | hij | hij
      · have := he i hij
        omega
      · subst hij
        omega
      · have := ke j hij
        omega

theorem digit_lt : ∀ a : Fin 16, ∀ b : Fin 16, a.val < b.val → (Hx.digit a.val).toNat < (Hx.digit b.val).toNat := by decide

theorem digit_mono {a b : Nat} (ha : a < 16) (hb : b < 16) (h : a < b) : (Hx.digit a).toNat < (Hx.digit b).toNat := digit_lt ⟨a, ha⟩ ⟨b, hb⟩ h

/-- The byte at place i of a list of bytes, as a number. -/
def nth (l : List UInt8) (i : Nat) : Int := ((l[i]?.getD 0).toNat : Int)

theorem nth_lt (l : List UInt8) (i : Nat) : 0 ≤ nth l i ∧ nth l i < 256 := by
  unfold nth
  have := (l[i]?.getD 0).toNat_lt
  omega

/-- The digits of byte i stand at places 2i and 2i + 1. -/
theorem nth_enc (l : List UInt8) (i : Nat) (h : i < l.length) :
    nth (Hx.encode l) (2 * i) = ((Hx.digit ((nth l i).toNat / 16)).toNat : Int) ∧ nth (Hx.encode l) (2 * i + 1) = ((Hx.digit ((nth l i).toNat % 16)).toNat : Int) := by
  obtain ⟨b, hb⟩ : ∃ b, l[i]? = some b := ⟨l[i], List.getElem?_eq_getElem h⟩
  obtain ⟨h1, h2⟩ := Hx.encode_at l i b hb
  unfold nth
  rw [h1, h2, hb]
  simp

theorem cmp_enc {l m : List UInt8} (hl : l.length = 32) (hm : m.length = 32) {r : Int} (h : IsCmp 32 (nth l) (nth m) r) : IsCmp 64 (nth (Hx.encode l)) (nth (Hx.encode m)) r := by
  have same : ∀ i, i < 32 → nth l i = nth m i → ∀ k, k / 2 = i → nth (Hx.encode l) k = nth (Hx.encode m) k := fun i hi he k hk => by
    obtain ⟨a1, a2⟩ := nth_enc l i (by omega)
    obtain ⟨b1, b2⟩ := nth_enc m i (by omega)
    rcases Nat.mod_two_eq_zero_or_one k with h0 | h0
    · rw [show k = 2 * i by omega, a1, b1, he]
    · rw [show k = 2 * i + 1 by omega, a2, b2, he]
  rcases h with ⟨h1, h2⟩ | ⟨j, hj, he, h3⟩
  · exact .inl ⟨h1, fun k hk => same (k / 2) (by omega) (h2 _ (by omega)) k rfl⟩
  · obtain ⟨a1, a2⟩ := nth_enc l j (by omega)
    obtain ⟨b1, b2⟩ := nth_enc m j (by omega)
    obtain ⟨p0, p1⟩ := nth_lt l j
    obtain ⟨q0, q1⟩ := nth_lt m j
    have before : ∀ k, k < 2 * j → nth (Hx.encode l) k = nth (Hx.encode m) k := fun k hk => same (k / 2) (by omega) (he _ (by omega)) k rfl
    generalize nth l j = x at *
    generalize nth m j = y at *
    by_cases hd : x.toNat / 16 = y.toNat / 16
    · refine .inr ⟨2 * j + 1, by omega, fun i hi => ?_, ?_⟩
      · by_cases h2 : i = 2 * j
        · rw [h2, a1, b1, hd]
        · exact before i (by omega)
      · rw [a2, b2]
        rcases h3 with ⟨h3, hr⟩ | ⟨h3, hr⟩
        · have := digit_mono (a := x.toNat % 16) (b := y.toNat % 16) (by omega) (by omega) (by omega)
          exact .inl ⟨by omega, hr⟩
        · have := digit_mono (a := y.toNat % 16) (b := x.toNat % 16) (by omega) (by omega) (by omega)
          exact .inr ⟨by omega, hr⟩
    · refine .inr ⟨2 * j, by omega, before, ?_⟩
      rw [a1, b1]
      rcases h3 with ⟨h3, hr⟩ | ⟨h3, hr⟩
      · have := digit_mono (a := x.toNat / 16) (b := y.toNat / 16) (by omega) (by omega) (by omega)
        exact .inl ⟨by omega, hr⟩
      · have := digit_mono (a := y.toNat / 16) (b := x.toNat / 16) (by omega) (by omega) (by omega)
        exact .inr ⟨by omega, hr⟩

theorem cmp_same {l m : List UInt8} (hl : l.length = 32) (hm : m.length = 32) {r s : Int} (h : IsCmp 64 (nth (Hx.encode l)) (nth (Hx.encode m)) r) (k : IsCmp 32 (nth l) (nth m) s) : r = s :=
  h.one (cmp_enc hl hm k)
end Go.Proofs.Qxb6608534a
