import Derived.Test.Qxb6613226aLook
import Derived.WalkKit
import Derived.WalkSpells
import Derived.WalkLawsBesides
import Derived.Outline
import Derived.Deep.QuietTactic
import Derived.BigQuiet
import Derived.Below
namespace Go.Proofs.Qxb6613226a
open Go.RowKit

set_option maxHeartbeats 400000 in
/-- (19) a new register: two empty maps, and the block that holds them. -/
theorem newReg_any (w : World) :
    Calls Try.prog 19 #[] w fun e w' => e = .returned (.pointer (some ⟨w.heap.size + 2, 0, none⟩)) ∧ w' = ((w.alloc (.map #[] 0)).alloc (.map #[] 0)).alloc (.cells #[.map (some w.heap.size), .map (some (w.heap.size + 1))] 63) := by
  have hmm := @run_makeMap Try.prog
  go_enter Try.func19, Try.ntmps19
  go_wp2
  go_ret
  exact ⟨rfl, rfl⟩

set_option maxHeartbeats 400000 in
/-- (25) the grouping of a register: a closure over the variable that holds it. -/
theorem byReg_any (a : Addr) (w : World) :
    Calls Try.prog 25 #[.pointer (some a), .pointer none] w fun e w' => e = .returned (.func (.func 31) #[] #[.pointer (some ⟨w.heap.size, 0, none⟩)]) ∧ w' = w.alloc (.cells #[.pointer (some a)] 27) := by
  go_enter Try.func25, Try.ntmps25
  go_wp2
  go_ret
  exact ⟨rfl, rfl⟩

set_option maxHeartbeats 400000 in
/-- (24) new estimates. -/
theorem newEst_any (a : Addr) (w : World) :
    Calls Try.prog 24 #[.func (.func 31) #[] #[.pointer (some a)]] w fun e w' => e = .returned (.pointer (some ⟨w.heap.size + 1, 0, none⟩)) ∧ w' = (w.alloc (.map #[] 0)).alloc (.cells #[.map (some w.heap.size), .func (.func 31) #[] #[.pointer (some a)]] 69) := by
  have hmm := @run_makeMap Try.prog
  go_enter Try.func24, Try.ntmps24
  go_wp2
  go_ret
  exact ⟨rfl, rfl⟩

set_option maxHeartbeats 400000 in
/-- (30) a date's year. -/
theorem year_any (d : Int) (w : World) :
    Calls Try.prog 30 #[.int .i32 d] w fun e w' => (∃ y : Int, e = .returned (.int .i64 y)) ∧ w' = w := by
  go_enter Try.func30, Try.ntmps30
  go_wp2
  go_ret
  exact ⟨⟨_, rfl⟩, rfl⟩

set_option maxHeartbeats 400000 in
/-- (22) slices.Clone of nil. -/
theorem clone_nil (w : World) :
    Calls Try.prog 22 #[.slice none 0 0] w fun e w' => e = .returned (.slice none 0 0) ∧ w' = w := by
  have hq := fun w => Lib.run_eql_slice_nil (P := Try.prog) w 45 9 none 0 0 0 0 Try.underlying45
  go_enter Try.func22, Try.ntmps22
  go_wp2
  go_ret
  exact ⟨rfl, rfl⟩

/-- A value that reads as a slice of strings: nil, or a row of cells each of which holds a string. -/
def IsStrs (w : World) (v : Value) : Prop :=
  v = .slice none 0 0 ∨ ∃ (a : Addr) (n c : Nat), v = .slice (some a) n c ∧ n ≤ maxLen ∧ ∀ i, i < n → ∃ s, w.cell? (a.add i) = some (.string s)

set_option maxHeartbeats 1000000 in
/-- (26) estimates that hold none find none. -/
theorem find_nil (E m : Nat) (y k : Int) (w : World) (h0 : w.cell? ⟨E, 0, none⟩ = some (.map (some m))) (hm : w.heap[m]? = some (.map #[] 0)) :
    Calls Try.prog 26 #[.pointer (some ⟨E, 0, none⟩), .int .i64 y, .int .i64 k, .slice none 0 0] w fun e w' => e = .returned (.tuple #[.pointer none, .pointer none]) ∧ w' = w := by
  have hl := (look_empty 65 81 79 Try.underlying65 m 0 (.agg #[.int .i64 y, .int .i64 k]) false w hm).trans (look65_nil y k w)
  clear hm
  go_enter Try.func26, Try.ntmps26
  go_wp2
  go_loop [8, 25] (fun f t => f = .pointer none ∧ t = .int .i64 0) (fun _ _ => 0)
  case atStart => exact ⟨rfl, rfl⟩
  case round =>
    obtain ⟨rfl, rfl⟩ := hrel
    go_wp2
    go_ret2
    exact ⟨rfl, rfl⟩

set_option maxHeartbeats 1000000 in
theorem find_row (E m : Nat) (a : Addr) (n c : Nat) (y k : Int) (w : World) (h0 : w.cell? ⟨E, 0, none⟩ = some (.map (some m))) (hm : w.heap[m]? = some (.map #[] 0))
    (hn : n ≤ maxLen) (hs : ∀ i, i < n → ∃ s, w.cell? (a.add i) = some (.string s)) :
    Calls Try.prog 26 #[.pointer (some ⟨E, 0, none⟩), .int .i64 y, .int .i64 k, .slice (some a) n c] w fun e w' => e = .returned (.tuple #[.pointer none, .pointer none]) ∧ w' = w := by
  have hl := (look_empty 65 81 79 Try.underlying65 m 0 (.agg #[.int .i64 y, .int .i64 k]) false w hm).trans (look65_nil y k w)
  have HS := hide hs
  clear hm hs
  unfold maxLen at hn
  go_enter Try.func26, Try.ntmps26
  go_wp2
  go_loop [8, 25] (fun f t => f = .pointer none ∧ ∃ j : Nat, j ≤ n ∧ t = .int .i64 j) (fun _ t => n - (intOf t).toNat)
  case atStart => exact ⟨rfl, 0, Nat.zero_le _, rfl⟩
  case round =>
    obtain ⟨rfl, j, hj, rfl⟩ := hrel
    by_cases hlt : j < n
    · obtain ⟨s, hc⟩ := unhide HS j hlt
      have h79 := look79_nil s w
      go_wp2
      go_round
      case rel => exact ⟨rfl, j + 1, by omega, by go_num⟩
      case measure => simp [intOf]; omega
    · go_wp2
      go_ret2
      exact ⟨rfl, rfl⟩
end Go.Proofs.Qxb6613226a
