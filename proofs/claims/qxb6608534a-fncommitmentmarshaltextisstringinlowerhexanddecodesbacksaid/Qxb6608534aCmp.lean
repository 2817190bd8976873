import Derived.Test.Qxb6608534aWalks
import Derived.WalkKit
import Derived.WalkSpells
import Derived.WalkLawsBesides
import Derived.Outline
import Derived.Deep.QuietTactic
import Derived.BigQuiet
import Derived.Below
namespace Go.Proofs.Qxb6608534a
open Go.RowKit Go.Lib

/-- How two rows of n numbers compare, read from the left. -/
def IsCmp (n : Nat) (f g : Nat → Int) (r : Int) : Prop :=
  (r = 0 ∧ ∀ j, j < n → f j = g j) ∨ ∃ j, j < n ∧ (∀ i, i < j → f i = g i) ∧ ((f j < g j ∧ r = -1) ∨ (g j < f j ∧ r = 1))

set_option maxHeartbeats 1000000 in
theorem cmp_any (f g : Nat → Int) (b1 b2 c1 c2 : Nat) (w : World)
    (h1 : ∀ i, i < 64 → w.cell? ⟨b1, i, none⟩ = some (.int .u8 (f i))) (h2 : ∀ i, i < 64 → w.cell? ⟨b2, i, none⟩ = some (.int .u8 (g i))) :
    Calls Try.prog 8 #[.slice (some ⟨b1, 0, none⟩) 64 c1, .slice (some ⟨b2, 0, none⟩) 64 c2] w fun e w' => ∃ r, IsCmp 64 f g r ∧ e = .returned (.int .i64 r) ∧ ∃ q, w' = w.drewN q := by
  have H1 := hide h1
  have H2 := hide h2
  clear h1 h2
  go_enter Try.func8, Try.ntmps8
  go_wp2
  go_loopw [6] (fun vi wr => ∃ k : Nat, k ≤ 64 ∧ vi = .int .i64 k ∧ Hid (∀ j, j < k → f j = g j) ∧ Hid (∃ q, wr = w.drewN q)) (fun vi _ => 64 - (RowKit.intOf vi).toNat)
  case atStart => exact ⟨0, by omega, rfl, fun j hj => absurd hj (Nat.not_lt_zero _), 0, rfl⟩
  case round =>
    obtain ⟨k, hk, rfl, heq, hq⟩ := hrel
    obtain ⟨q, hq⟩ := hq
    subst hq
    by_cases hlt : k < 64
    · have e1 : w.cell? ⟨b1, k, none⟩ = some (.int .u8 (f k)) := unhide H1 k hlt
      have e2 : w.cell? ⟨b2, k, none⟩ = some (.int .u8 (g k)) := unhide H2 k hlt
      have i0 : (0 : Int) ≤ (k : Int) := by omega
      have i1 : (k : Int) < 64 := by omega
      by_cases hf : f k = g k
      · have hb : (f k != g k) = false := by simp [hf]
        have HF := hide hf
        clear hf
        go_wp2
        go_quiet (fail)
        go_wp2
        go_roundw
        case rel =>
          refine ⟨k + 1, by omega, by go_num, fun j hj => ?_, q + nq, ?_⟩
          · rcases Nat.lt_succ_iff_lt_or_eq.1 hj with h | h
            · exact unhide heq j h
            · rw [h]; exact unhide HF
          · rfl
        case measure => simp [RowKit.intOf]; omega
      · have hb : (f k != g k) = true := by simp [hf]
        by_cases hl : f k < g k
        · go_wp2
          go_quiet (fail)
          go_wp2
          go_quiet (fail)
          go_wp2
          go_ret
          refine ⟨-1, .inr ⟨k, hlt, unhide heq, .inl ⟨hl, rfl⟩⟩, rfl, ?_⟩
          exact ⟨_, by rw [World.drewN_drewN, World.drewN_drewN]⟩
        · go_wp2
          go_quiet (fail)
          go_wp2
          go_quiet (fail)
          go_wp2
          go_ret
          refine ⟨1, .inr ⟨k, hlt, unhide heq, .inr ⟨by omega, rfl⟩⟩, rfl, ?_⟩
          exact ⟨_, by rw [World.drewN_drewN, World.drewN_drewN]⟩
    · have hk2 : k = 64 := by omega
      subst hk2
      go_wp2
      go_ret
      exact ⟨0, .inl ⟨rfl, unhide heq⟩, rfl, q, rfl⟩

set_option maxHeartbeats 1000000 in
theorem cmp32_any (f g : Nat → Int) (cs ds : Array Value) (w : World) (hs1 : cs.size = 32) (hs2 : ds.size = 32)
    (h1 : ∀ i, i < 32 → cs[i]? = some (.int .u8 (f i))) (h2 : ∀ i, i < 32 → ds[i]? = some (.int .u8 (g i))) :
    Calls Try.prog 9 #[.agg cs, .agg ds] w fun e w' => ∃ r, IsCmp 32 f g r ∧ e = .returned (.int .i64 r) ∧ Below w.heap.size w w' := by
  have H1 := hide h1
  have H2 := hide h2
  clear h1 h2
  go_enter Try.func9, Try.ntmps9
  go_wp2
  go_loopw [5] (fun vi wr => ∃ k : Nat, k ≤ 32 ∧ vi = .int .i64 k ∧ Hid (∀ j, j < k → f j = g j) ∧ Hid (∃ q, wr = ((w.alloc (.cells cs 22)).alloc (.cells ds 22)).drewN q)) (fun vi _ => 32 - (RowKit.intOf vi).toNat)
  case atStart => exact ⟨0, by omega, rfl, fun j hj => absurd hj (Nat.not_lt_zero _), 0, rfl⟩
  case round =>
    obtain ⟨k, hk, rfl, heq, hq⟩ := hrel
    obtain ⟨q, hq⟩ := hq
    subst hq
    have fin : ∀ W n, W = ((w.alloc (.cells cs 22)).alloc (.cells ds 22)).drewN n → Below w.heap.size w W := fun W n h => by
      rw [h]
      exact ((((Below.refl _ w).alloc (Nat.le_refl _) _).alloc (by simp) _)).trans ⟨rfl, rfl, rfl, Nat.le_refl _, fun _ _ => rfl⟩
    have FIN := hide fin
    clear fin
    by_cases hlt : k < 32
    · have e1 : cs[k]'(by omega) = .int .u8 (f k) := Array.getElem_eq_iff.2 (unhide H1 k hlt)
      have e2 : ds[k]'(by omega) = .int .u8 (g k) := Array.getElem_eq_iff.2 (unhide H2 k hlt)
      have i0 : (0 : Int) ≤ (k : Int) := by omega
      have i1 : (k : Int) < 32 := by omega
      by_cases hf : f k = g k
      · have hb : (f k != g k) = false := by simp [hf]
        have HF := hide hf
        clear hf
        go_wp2
        go_quiet (fail)
        go_wp2
        go_roundw
        case rel =>
          refine ⟨k + 1, by omega, by go_num, fun j hj => ?_, q + nq, ?_⟩
          · rcases Nat.lt_succ_iff_lt_or_eq.1 hj with h | h
            · exact unhide heq j h
            · rw [h]; exact unhide HF
          · rfl
        case measure => simp [RowKit.intOf]; omega
      · have hb : (f k != g k) = true := by simp [hf]
        by_cases hl : f k < g k
        · go_wp2
          go_quiet (fail)
          go_wp2
          go_quiet (fail)
          go_wp2
          go_ret
          refine ⟨-1, .inr ⟨k, hlt, unhide heq, .inl ⟨hl, rfl⟩⟩, rfl, ?_⟩
          exact unhide FIN _ _ (by rw [World.drewN_drewN, World.drewN_drewN])
        · go_wp2
          go_quiet (fail)
          go_wp2
          go_quiet (fail)
          go_wp2
          go_ret
          refine ⟨1, .inr ⟨k, hlt, unhide heq, .inr ⟨by omega, rfl⟩⟩, rfl, ?_⟩
          exact unhide FIN _ _ (by rw [World.drewN_drewN, World.drewN_drewN])
    · have hk2 : k = 32 := by omega
      subst hk2
      go_wp2
      go_ret
      exact ⟨0, .inl ⟨rfl, unhide heq⟩, rfl, unhide FIN _ q rfl⟩
end Go.Proofs.Qxb6608534a
