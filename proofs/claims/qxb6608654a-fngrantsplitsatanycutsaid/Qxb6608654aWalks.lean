import Derived.Test.Qxb6608654aProg
import Derived.WalkKit
import Derived.WalkSpells
import Derived.WalkLawsBesides
import Derived.Outline
import Derived.Deep.QuietTactic
import Derived.BigQuiet
import Derived.Below
namespace Go.Proofs.Qxb6608654a
open Go.RowKit

theorem hide {p : Prop} (h : p) : Hid p := h
theorem unhide {p : Prop} (h : Hid p) : p := h

set_option maxHeartbeats 400000 in
theorem new_any (g s : Int) (w : World) :
    Calls Try.prog 4 #[.int .i64 g, .int .i64 s] w fun e w' => e = .returned (.pointer (some ⟨w.heap.size, 0, none⟩)) ∧ w' = w.alloc (.cells #[.int .i64 g, .int .i64 s] 29) := by
  go_enter Try.func4, Try.ntmps4
  go_wp2
  go_ret
  exact ⟨rfl, rfl⟩

set_option maxHeartbeats 400000 in
theorem grant_any (b : Nat) (g n : Int) (w : World) (hc : w.cell? ⟨b, 0, none⟩ = some (.int .i64 g)) (hf : w.frozen? ⟨b, 0, none⟩ = false) :
    Calls Try.prog 5 #[.pointer (some ⟨b, 0, none⟩), .int .i64 n] w fun e w' => ∃ g' : Int, Hid (g' = wrap64 (g + wrap64 (256 * n))) ∧ e = .returned (.tuple #[]) ∧ w' = w.setCell ⟨b, 0, none⟩ (.int .i64 g') := by
  go_enter Try.func5, Try.ntmps5
  go_wp2
  go_end0
  go_wp2
  go_end0
  exact ⟨_, rfl, rfl, rfl⟩

set_option maxHeartbeats 400000 in
theorem state_any (b : Nat) (g s : Int) (w : World) (hc : w.cell? ⟨b, 0, none⟩ = some (.int .i64 g)) (hs : w.cell? ⟨b, 1, none⟩ = some (.int .i64 s)) :
    Calls Try.prog 6 #[.pointer (some ⟨b, 0, none⟩)] w fun e w' => ∃ q, e = .returned (.tuple #[.int .i64 g, .int .i64 s]) ∧ w' = w.drewN q := by
  go_enter Try.func6, Try.ntmps6
  go_wp2
  go_quiet (fail)
  go_wp2
  go_ret2
  exact ⟨_, rfl, rfl⟩
end Go.Proofs.Qxb6608654a
