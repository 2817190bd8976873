import Derived.Test.Qxb6613226aUnder
import Derived.WalkKit
import Derived.WalkSpells
import Derived.WalkLawsBesides
import Derived.Outline
import Derived.Deep.QuietTactic
import Derived.BigQuiet
import Derived.Below
namespace Go.Proofs.Qxb6613226a
open Go.RowKit

set_option maxHeartbeats 1000000 in
/-- (15) -/
theorem zzunder_any (b2 R V m E : Nat) (id grp : ByteArray) (d k : Int) (w : World) (h : Laid w b2 R V m E) :
    Calls Try.prog 15 #[.pointer (some ⟨E, 0, none⟩), party id grp, .int .i32 d, .int .i64 k] w fun e w' => e = .returned (.tuple #[.bool false, .bool false]) ∧ Below w.heap.size w w' := by
  go_enter Try.func15, Try.ntmps15
  go_wp2_with fail
  refine (under_any b2 R V m E id grp d k _ (h.below ((Below.refl _ w).alloc (Nat.le_refl _) _))).mono ?_
  rintro e w1 ⟨rfl, hb⟩
  have HB := hide hb
  clear hb
  go_wp2
  go_ret2
  exact ⟨rfl, ((Below.refl _ w).alloc (Nat.le_refl _) _).trans ((unhide HB).mono (by simp))⟩

set_option maxHeartbeats 1000000 in
/-- (20) -/
theorem zzfind_any (b2 R V m E : Nat) (y k : Int) (v : Value) (w : World) (h : Laid w b2 R V m E) (hv : IsStrs w v) :
    Calls Try.prog 20 #[.pointer (some ⟨E, 0, none⟩), .int .i64 y, .int .i64 k, v] w fun e w' => e = .returned (.tuple #[.bool false, .bool false]) ∧ w' = w := by
  go_enter Try.func20, Try.ntmps20
  go_wp2_with fail
  refine (find_any b2 R V m E y k v _ h hv).mono ?_
  rintro e w1 ⟨rfl, rfl⟩
  go_wp2
  go_ret2
  exact ⟨rfl, rfl⟩

set_option maxHeartbeats 1000000 in
/-- (13) -/
theorem alone_any (id grp : ByteArray) (w : World) :
    Calls Try.prog 13 #[.string id, .string grp] w fun e w' => ∃ v, e = .returned v ∧ Alone w' id grp v ∧ Below w.heap.size w w' := by
  cases hg : grp.toList.isEmpty with
  | true =>
    go_enter Try.func13, Try.ntmps13
    go_wp2
    go_ret
    exact ⟨_, rfl, .inl ⟨hg, w.heap.size, rfl, by simp, by simp⟩, (Below.refl _ w).alloc (Nat.le_refl _) _⟩
  | false =>
    go_enter Try.func13, Try.ntmps13
    go_wp2
    go_ret
    exact ⟨_, rfl, .inr ⟨hg, rfl⟩, Below.refl _ _⟩

set_option maxHeartbeats 1000000 in
/-- (11) two nil slices are the same. -/
theorem sameStr_nil (w : World) :
    Calls Try.prog 11 #[.slice none 0 0, .slice none 0 0] w fun e w' => e = .returned (.bool true) ∧ Below w.heap.size w w' := by
  go_enter Try.func11, Try.ntmps11
  go_wp2
  go_loop [5] (fun t => t = .int .i64 0) (fun _ => 0)
  case atStart => rfl
  case round =>
    subst hrel
    go_wp2
    go_ret
    exact ⟨rfl, Below.refl _ _⟩

set_option maxHeartbeats 1000000 in
/-- (11) two slices of one and the same string are the same. -/
theorem sameStr_one (g1 g2 : Nat) (id : ByteArray) (w : World) (h1 : w.cell? ⟨g1, 0, none⟩ = some (.string id)) (h2 : w.cell? ⟨g2, 0, none⟩ = some (.string id)) :
    Calls Try.prog 11 #[.slice (some ⟨g1, 0, none⟩) 1 1, .slice (some ⟨g2, 0, none⟩) 1 1] w fun e w' => e = .returned (.bool true) ∧ Below w.heap.size w w' := by
  go_enter Try.func11, Try.ntmps11
  go_wp2
  go_loopw [5] (fun t wr => ∃ k : Nat, k ≤ 1 ∧ t = .int .i64 k ∧ Hid (∃ q, wr = w.drewN q)) (fun t _ => 1 - (intOf t).toNat)
  case atStart => exact ⟨0, by omega, rfl, 0, rfl⟩
  case round =>
    obtain ⟨k, hk, rfl, q, rfl⟩ := hrel
    by_cases hlt : k < 1
    · obtain rfl : k = 0 := by omega
      go_wp2
      go_quiet (fail)
      go_wp2
      go_roundw
      case rel => exact ⟨1, by omega, by go_num, q + nq, rfl⟩
      case measure => simp [intOf]
    · obtain rfl : k = 1 := by omega
      go_wp2
      go_ret
      exact ⟨rfl, (Below.refl _ w).trans ⟨rfl, rfl, rfl, Nat.le_refl _, fun _ _ => rfl⟩⟩

theorem sameStr_any (id grp : ByteArray) (v u : Value) (w : World) (hv : Alone w id grp v) (hu : Alone w id grp u) :
    Calls Try.prog 11 #[v, u] w fun e w' => e = .returned (.bool true) ∧ Below w.heap.size w w' := by
  rcases hv with ⟨e1, g1, rfl, _, c1⟩ | ⟨e1, rfl⟩
  · rcases hu with ⟨e2, g2, rfl, _, c2⟩ | ⟨e2, rfl⟩
    · exact sameStr_one g1 g2 id w c1 c2
    · rw [e1] at e2; cases e2
  · rcases hu with ⟨e2, g2, rfl, _, c2⟩ | ⟨e2, rfl⟩
    · rw [e1] at e2; cases e2
    · exact sameStr_nil w

set_option maxHeartbeats 1000000 in
/-- (18) -/
theorem zznew_any (a : Addr) (w : World) :
    Calls Try.prog 18 #[.pointer (some a)] w fun e w' => e = .returned (.pointer (some ⟨w.heap.size + 2, 0, none⟩)) ∧
      w' = ((w.alloc (.cells #[.pointer (some a)] 27)).alloc (.map #[] 0)).alloc (.cells #[.map (some (w.heap.size + 1)), .func (.func 31) #[] #[.pointer (some ⟨w.heap.size, 0, none⟩)]] 69) := by
  go_enter Try.func18, Try.ntmps18
  go_wp2_with fail
  refine (byReg_any a _).mono ?_
  rintro e w1 ⟨rfl, rfl⟩
  go_wp2_with fail
  refine (newEst_any ⟨w.heap.size, 0, none⟩ _).mono ?_
  rintro e w1 ⟨rfl, rfl⟩
  go_wp2
  go_ret
  exact ⟨by simp, by simp⟩
end Go.Proofs.Qxb6613226a
