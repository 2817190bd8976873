import Derived.Test.Qxb6613226aGroup
import Derived.WalkKit
import Derived.WalkSpells
import Derived.WalkLawsBesides
import Derived.Outline
import Derived.Deep.QuietTactic
import Derived.BigQuiet
import Derived.Deep.RegionWith
import Derived.Below
namespace Go.Proofs.Qxb6613226a
open Go.RowKit

set_option maxHeartbeats 1000000 in
/-- (23) nothing is found under any party. -/
theorem under_any (b2 R V m E : Nat) (id grp : ByteArray) (d k : Int) (w : World) (h : Laid w b2 R V m E) :
    Calls Try.prog 23 #[.pointer (some ⟨E, 0, none⟩), party id grp, .int .i32 d, .int .i64 k] w fun e w' => e = .returned (.tuple #[.pointer none, .pointer none]) ∧ Below w.heap.size w w' := by
  have hf : ∀ o, (w.alloc o).cell? ⟨E, 1, none⟩ = some (.func (.func 31) #[] #[.pointer (some ⟨V, 0, none⟩)]) := fun o => (((Below.refl _ w).alloc (Nat.le_refl _) o).cell (p := ⟨E, 1, none⟩) (block_lt_of_cell h.fn)).trans h.fn
  go_enter Try.func23, Try.ntmps23
  go_wp2
  go_region_with (first
    | (go_at_call 30; refine (year_any d _).mono ?_; rintro e w1 ⟨⟨y, rfl⟩, rfl⟩)
    | (go_at_call 31; refine (closure_any b2 R V m E id grp d _ ?_).mono ?_; exact h.below (((Below.refl _ w).alloc (Nat.le_refl _) _).drew); rintro e w1 ⟨v, rfl, ha, hb⟩; have HA := hide ha; have HB := hide hb; clear ha hb)
    | (go_at_call 26; refine (find_any b2 R V m E _ k _ _ ?_ (unhide HA).strs).mono ?_; exact (h.below (((Below.refl _ w).alloc (Nat.le_refl _) _).drew)).below (unhide HB); rintro e w2 ⟨rfl, rfl⟩))
  all_goals
    go_wp2
    go_ret2
    exact ⟨rfl, (((Below.refl _ w).alloc (Nat.le_refl _) _).drew).trans ((unhide HB).mono (by simp))⟩
end Go.Proofs.Qxb6613226a
