import Derived.Test.Qxb6613226aWalks
import Derived.WalkKit
import Derived.WalkSpells
import Derived.WalkLawsBesides
import Derived.Outline
import Derived.Deep.QuietTactic
import Derived.BigQuiet
import Derived.Deep.RegionWith
import Derived.Below
namespace Go.Proofs.Qxb6613226a
open Go.RowKit

/-- A party of which only the id and the group are laid. -/
abbrev party (id grp : ByteArray) : Value := .agg #[.string id, .string ⟨#[]⟩, .int .i64 0, .string grp, .int .i64 0]

set_option maxHeartbeats 1000000 in
/-- (12) a party without a group is alone. -/
theorem same_alone (R : Addr) (id grp : ByteArray) (w : World) (hg : grp.toList.isEmpty = true) :
    Calls Try.prog 12 #[.pointer (some R), party id grp] w fun e w' => ∃ g : Nat, e = .returned (.slice (some ⟨g, 0, none⟩) 1 1) ∧ w.heap.size ≤ g ∧ g < w'.heap.size ∧ w'.cell? ⟨g, 0, none⟩ = some (.string id) ∧ Below w.heap.size w w' := by
  go_enter Try.func12, Try.ntmps12
  go_wp2
  go_ret
  exact ⟨w.heap.size + 1, rfl, by omega, by simp, by simp, ((Below.refl _ w).alloc (Nat.le_refl _) _).alloc (by simp) _⟩

set_option maxHeartbeats 1000000 in
/-- (12) a party with a group is not in an empty register. -/
theorem same_none (R b2 : Nat) (id grp : ByteArray) (w : World) (hg : grp.toList.isEmpty = false) (h1 : w.cell? ⟨R, 1, none⟩ = some (.map (some b2))) (hm : w.heap[b2]? = some (.map #[] 0)) :
    Calls Try.prog 12 #[.pointer (some ⟨R, 0, none⟩), party id grp] w fun e w' => e = .returned (.slice none 0 0) ∧ Below w.heap.size w w' := by
  have hlt : b2 < w.heap.size := by
    rcases Nat.lt_or_ge b2 w.heap.size with h | h
    · exact h
    · rw [Array.getElem?_eq_none h] at hm; cases hm
  have hl : ∀ (o : Obj) (n : Nat), (Instr.lookup 61 (.map (some b2)) (.string grp) false).run Try.prog ((w.alloc o).drewN n) = .ok (.slice none 0 0) ((w.alloc o).drewN n) := fun o n => by
    have e : ((w.alloc o).drewN n).heap[b2]? = some (.map #[] 0) := (Below.heap_alloc w o b2 hlt).trans hm
    rw [look_empty 61 9 45 Try.underlying61 b2 0 (.string grp) false _ e]
    exact look61_nil grp _
  have h1' : ∀ o, (w.alloc o).cell? ⟨R, 1, none⟩ = some (.map (some b2)) := fun o => (((Below.refl _ w).alloc (Nat.le_refl _) o).cell (p := ⟨R, 1, none⟩) (block_lt_of_cell h1)).trans h1
  clear hm h1 hlt
  go_enter Try.func12, Try.ntmps12
  go_wp2
  go_quiet ((go_at_call 22; exact Calls.quiet_of_same (clone_nil _)))
  go_wp2
  go_ret
  exact ⟨rfl, ((Below.refl _ w).alloc (Nat.le_refl _) _).trans ⟨rfl, rfl, rfl, Nat.le_refl _, fun _ _ => rfl⟩⟩

/-- A value that reads as zzAlone says: the id alone where the group is empty, else nil. -/
def Alone (w : World) (id grp : ByteArray) (v : Value) : Prop :=
  (grp.toList.isEmpty = true ∧ ∃ g : Nat, v = .slice (some ⟨g, 0, none⟩) 1 1 ∧ g < w.heap.size ∧ w.cell? ⟨g, 0, none⟩ = some (.string id)) ∨ (grp.toList.isEmpty = false ∧ v = .slice none 0 0)

/-- The blocks of a new register, of the variable that holds it and of estimates over it. -/
structure Laid (w : World) (b2 R V m E : Nat) : Prop where
  reg : w.heap[b2]? = some (.map #[] 0)
  grp : w.cell? ⟨R, 1, none⟩ = some (.map (some b2))
  var : w.cell? ⟨V, 0, none⟩ = some (.pointer (some ⟨R, 0, none⟩))
  est : w.heap[m]? = some (.map #[] 0)
  of : w.cell? ⟨E, 0, none⟩ = some (.map (some m))
  fn : w.cell? ⟨E, 1, none⟩ = some (.func (.func 31) #[] #[.pointer (some ⟨V, 0, none⟩)])

theorem lt_of_heap {w : World} {b : Nat} {o : Obj} (h : w.heap[b]? = some o) : b < w.heap.size := by
  rcases Nat.lt_or_ge b w.heap.size with h' | h'
  · exact h'
  · rw [Array.getElem?_eq_none h'] at h; cases h

theorem Laid.below {w w' : World} {b2 R V m E : Nat} (h : Laid w b2 R V m E) (hb : Below w.heap.size w w') : Laid w' b2 R V m E :=
  ⟨(hb.block _ (lt_of_heap h.reg)).trans h.reg, (hb.cell (p := ⟨R, 1, none⟩) (block_lt_of_cell h.grp)).trans h.grp, (hb.cell (p := ⟨V, 0, none⟩) (block_lt_of_cell h.var)).trans h.var,
   (hb.block _ (lt_of_heap h.est)).trans h.est, (hb.cell (p := ⟨E, 0, none⟩) (block_lt_of_cell h.of)).trans h.of, (hb.cell (p := ⟨E, 1, none⟩) (block_lt_of_cell h.fn)).trans h.fn⟩

theorem same_any (b2 R V m E : Nat) (id grp : ByteArray) (w : World) (h : Laid w b2 R V m E) :
    Calls Try.prog 12 #[.pointer (some ⟨R, 0, none⟩), party id grp] w fun e w' => ∃ v, e = .returned v ∧ Alone w' id grp v ∧ Below w.heap.size w w' := by
  cases hg : grp.toList.isEmpty with
  | true =>
    refine (same_alone ⟨R, 0, none⟩ id grp w hg).mono ?_
    rintro e w' ⟨g, rfl, h1, h2, h3, hb⟩
    exact ⟨_, rfl, .inl ⟨hg, g, rfl, h2, h3⟩, hb⟩
  | false =>
    refine (same_none R b2 id grp w hg h.grp h.reg).mono ?_
    rintro e w' ⟨rfl, hb⟩
    exact ⟨_, rfl, .inr ⟨hg, rfl⟩, hb⟩

set_option maxHeartbeats 1000000 in
/-- (31) the closure. -/
theorem closure_any (b2 R V m E : Nat) (id grp : ByteArray) (d : Int) (w : World) (h : Laid w b2 R V m E) :
    Calls Try.prog 31 #[party id grp, .int .i32 d, .pointer (some ⟨V, 0, none⟩)] w fun e w' => ∃ v, e = .returned v ∧ Alone w' id grp v ∧ Below w.heap.size w w' := by
  have hv : ∀ o, (w.alloc o).cell? ⟨V, 0, none⟩ = some (.pointer (some ⟨R, 0, none⟩)) := fun o => (((Below.refl _ w).alloc (Nat.le_refl _) o).cell (p := ⟨V, 0, none⟩) (block_lt_of_cell h.var)).trans h.var
  go_enter Try.func31, Try.ntmps31
  go_wp2_with fail
  refine (same_any b2 R V m E id grp _ (h.below ((Below.refl _ w).alloc (Nat.le_refl _) _))).mono ?_
  rintro e w1 ⟨v, rfl, ha, hb⟩
  have HA := hide ha
  have HB := hide hb
  clear ha hb
  go_wp2
  go_ret
  exact ⟨v, rfl, unhide HA, ((Below.refl _ w).alloc (Nat.le_refl _) _).trans ((unhide HB).mono (by simp))⟩

set_option maxHeartbeats 1000000 in
/-- (14) the estimates' grouping. -/
theorem group_any (b2 R V m E : Nat) (id grp : ByteArray) (d : Int) (w : World) (h : Laid w b2 R V m E) :
    Calls Try.prog 14 #[.pointer (some ⟨E, 0, none⟩), party id grp, .int .i32 d] w fun e w' => ∃ v, e = .returned v ∧ Alone w' id grp v ∧ Below w.heap.size w w' := by
  have hf : ∀ o, (w.alloc o).cell? ⟨E, 1, none⟩ = some (.func (.func 31) #[] #[.pointer (some ⟨V, 0, none⟩)]) := fun o => (((Below.refl _ w).alloc (Nat.le_refl _) o).cell (p := ⟨E, 1, none⟩) (block_lt_of_cell h.fn)).trans h.fn
  go_enter Try.func14, Try.ntmps14
  go_wp2
  go_region_with ((go_at_call 31; refine (closure_any b2 R V m E id grp d _ ?_).mono ?_; exact h.below (((Below.refl _ w).alloc (Nat.le_refl _) _).drew); rintro e w1 ⟨v, rfl, ha, hb⟩; have HA := hide ha; have HB := hide hb; clear ha hb))
  all_goals
    go_wp2
    go_ret
    exact ⟨v, rfl, unhide HA, (((Below.refl _ w).alloc (Nat.le_refl _) _).drew).trans ((unhide HB).mono (by simp))⟩

theorem Alone.strs {w : World} {id grp : ByteArray} {v : Value} (h : Alone w id grp v) : IsStrs w v := by
  rcases h with ⟨_, g, rfl, _, hc⟩ | ⟨_, rfl⟩
  · exact .inr ⟨⟨g, 0, none⟩, 1, 1, rfl, by decide, fun i hi => ⟨id, by rw [show i = 0 by omega]; exact hc⟩⟩
  · exact .inl rfl

theorem find_any (b2 R V m E : Nat) (y k : Int) (v : Value) (w : World) (h : Laid w b2 R V m E) (hv : IsStrs w v) :
    Calls Try.prog 26 #[.pointer (some ⟨E, 0, none⟩), .int .i64 y, .int .i64 k, v] w fun e w' => e = .returned (.tuple #[.pointer none, .pointer none]) ∧ w' = w := by
  rcases hv with rfl | ⟨a, n, c, rfl, hn, hs⟩
  · exact find_nil E m y k w h.of h.est
  · exact find_row E m a n c y k w h.of h.est hn hs

end Go.Proofs.Qxb6613226a
