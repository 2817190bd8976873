import Derived.Test.Qxb6613226aSmall
import Derived.WalkKit
import Derived.WalkSpells
import Derived.WalkLawsBesides
import Derived.Outline
import Derived.Below
namespace Go.Proofs.Qxb6613226a
open Go.RowKit

set_option maxHeartbeats 1000000 in
/-- (17) it returns some number. -/
theorem strBytes_nil (w : World) :
    Calls Try.prog 17 #[.slice none 0 0, .int .i64 524288] w fun e w' => (∃ x : Int, e = .returned (.int .i64 x)) ∧ w' = w := by
  go_enter Try.func17, Try.ntmps17
  go_wp2
  go_loop [5, 6] (fun t i => t = .int .i64 0 ∧ i = .int .i64 0) (fun _ _ => 0)
  case atStart => exact ⟨rfl, rfl⟩
  case round =>
    obtain ⟨rfl, rfl⟩ := hrel
    go_wp2
    go_ret
    exact ⟨⟨_, rfl⟩, rfl⟩

set_option maxHeartbeats 1000000 in
theorem strBytes_row (a : Addr) (n c : Nat) (w : World) (hn : n ≤ maxLen) (hs : ∀ i, i < n → ∃ s, w.cell? (a.add i) = some (.string s)) :
    Calls Try.prog 17 #[.slice (some a) n c, .int .i64 524288] w fun e w' => (∃ x : Int, e = .returned (.int .i64 x)) ∧ w' = w := by
  have HS := hide hs
  clear hs
  unfold maxLen at hn
  go_enter Try.func17, Try.ntmps17
  go_wp2
  go_loop [5, 6] (fun t i => (∃ x : Int, t = .int .i64 x) ∧ ∃ j : Nat, j ≤ n ∧ i = .int .i64 j) (fun _ i => n - (intOf i).toNat)
  case atStart => exact ⟨⟨0, rfl⟩, 0, Nat.zero_le _, rfl⟩
  case round =>
    obtain ⟨⟨x, rfl⟩, j, hj, rfl⟩ := hrel
    by_cases hlt : j < n
    · obtain ⟨s, hc⟩ := unhide HS j hlt
      go_wp2
      case roundEnd =>
        refine ⟨⟨⟨_, rfl⟩, j + 1, by omega, by go_num⟩, by simp [intOf]; omega⟩
      all_goals
        go_ret
        exact ⟨⟨_, rfl⟩, rfl⟩
    · go_wp2
      go_ret
      exact ⟨⟨_, rfl⟩, rfl⟩

theorem strBytes_any (v : Value) (w : World) (hv : IsStrs w v) :
    Calls Try.prog 17 #[v, .int .i64 524288] w fun e w' => (∃ x : Int, e = .returned (.int .i64 x)) ∧ w' = w := by
  rcases hv with rfl | ⟨a, n, c, rfl, hn, hs⟩
  · exact strBytes_nil w
  · exact strBytes_row a n c w hn hs

/-- It has returned a bool. -/
def IsBool (e : Ending) : Prop := ∃ x : Bool, e = .returned (.bool x)

set_option maxHeartbeats 2000000 in
/-- (16) it returns some bool. -/
theorem bytes_nil (id grp : ByteArray) (y k d : Int) (w : World) :
    Calls Try.prog 16 #[.string id, .string grp, .slice none 0 0, .int .i64 y, .int .i64 k, .int .i32 d] w fun e w' => IsBool e ∧ w' = w := by
  go_enter Try.func16, Try.ntmps16
  go_wp2
  all_goals try (go_ret; exact ⟨⟨_, rfl⟩, rfl⟩)
  go_loop [14] (fun i => i = .int .i64 0) (fun _ => 0)
  case atStart => rfl
  case round =>
    subst hrel
    go_wp2
    go_ret
    exact ⟨⟨_, rfl⟩, rfl⟩

set_option maxHeartbeats 2000000 in
theorem bytes_row (id grp : ByteArray) (a : Addr) (n c : Nat) (y k d : Int) (w : World) (hn : n ≤ maxLen) (hs : ∀ i, i < n → ∃ s, w.cell? (a.add i) = some (.string s)) :
    Calls Try.prog 16 #[.string id, .string grp, .slice (some a) n c, .int .i64 y, .int .i64 k, .int .i32 d] w fun e w' => IsBool e ∧ w' = w := by
  have HS := hide hs
  clear hs
  unfold maxLen at hn
  go_enter Try.func16, Try.ntmps16
  go_wp2
  all_goals try (go_ret; exact ⟨⟨_, rfl⟩, rfl⟩)
  go_loop [13, 14] (fun t i => (∃ x : Int, t = .int .i64 x) ∧ ∃ j : Nat, j ≤ n ∧ i = .int .i64 j) (fun _ i => n - (intOf i).toNat)
  case atStart => exact ⟨⟨_, rfl⟩, 0, Nat.zero_le _, rfl⟩
  case round =>
    obtain ⟨⟨x, rfl⟩, j, hj, rfl⟩ := hrel
    by_cases hlt : j < n
    · obtain ⟨s, hc⟩ := unhide HS j hlt
      go_wp2
      case roundEnd =>
        refine ⟨⟨⟨_, rfl⟩, j + 1, by omega, by go_num⟩, by simp [intOf]; omega⟩
      all_goals
        go_ret
        exact ⟨⟨_, rfl⟩, rfl⟩
    · go_wp2
      go_ret
      exact ⟨⟨_, rfl⟩, rfl⟩

theorem bytes_any (id grp : ByteArray) (v : Value) (y k d : Int) (w : World) (hv : IsStrs w v) :
    Calls Try.prog 16 #[.string id, .string grp, v, .int .i64 y, .int .i64 k, .int .i32 d] w fun e w' => IsBool e ∧ w' = w := by
  rcases hv with rfl | ⟨a, n, c, rfl, hn, hs⟩
  · exact bytes_nil id grp y k d w
  · exact bytes_row id grp a n c y k d w hn hs
end Go.Proofs.Qxb6613226a
