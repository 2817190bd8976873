/- Rows of whole numbers in memory; zzb1Durations. -/
import Derived.Test.Qxb6608579aSmall
import Derived.Deep.OwnRows
namespace Go.Proofs.Qxb6608579a
open Go.RowKit

theorem hide {p : Prop} (h : p) : Hid p := h
theorem unhide {p : Prop} (h : Hid p) : p := h

theorem info33 : (Try.prog.info? 33).map (fun i => (i.zero, i.size, i.bytes)) = some (some (Value.int .i64 0), 1, 8) := by kernel_rfl

theorem add_new (g j : Nat) : (⟨g, 0, none⟩ : Addr).add j = ⟨g, j, none⟩ := by unfold Addr.add; split <;> simp_all

/-- A row of whole numbers. -/
def Row (w : World) (a : Option Addr) (len : Nat) (ts : Nat → Int) : Prop :=
  (a = none ∧ len = 0) ∨ ∃ x, a = some x ∧ ∀ i, i < len → w.cell? (x.add i) = some (.int .i64 (ts i))

set_option maxHeartbeats 1000000 in
/-- (7) zzb1Durations -/
theorem dur_walk (x : Addr) (len cap : Nat) (ts : Nat → Int) (w : World) (hl : len ≤ 131072) (hlc : len ≤ cap) (hcell : ∀ i, i < len → w.cell? (x.add i) = some (.int .i64 (ts i))) :
    Calls Try.prog 7 #[.slice (some x) len cap] w fun e w' => ∃ c : Array Value, c.size = len ∧ (∀ i, i < len → c[i]? = some (.int .i64 (ts i))) ∧
      e = .returned (.slice (some ⟨w.heap.size, 0, none⟩) len len) ∧ w' = w.alloc (.cells c 33) := by
  have hmk := fun W => run_make_row' (P := Try.prog) 27 33 (.int .i64 0) 8 Try.underlying27 info33 rfl .i64 .i64 len (by omega) (by omega) W
  obtain ⟨MC, hMC⟩ : ∃ MC : Array Value, MC = madeCells #[.int .i64 0] len := ⟨_, rfl⟩
  have hMs : MC.size = len := by rw [hMC, size_madeCells]
  rw [← hMC] at hmk
  clear hMC
  have HC := hide hcell
  clear hcell
  go_enter Try.func7, Try.ntmps7
  go_wp2
  go_loopw [4] (fun t wr => ∃ k : Nat, k ≤ len ∧ t = .int .i64 k ∧ ∃ c : Array Value, c.size = len ∧ Hid (∀ i, i < k → c[i]? = some (.int .i64 (ts i))) ∧ wr = w.alloc (.cells c 33)) (fun t _ => len - (intOf t).toNat)
  case atStart => exact ⟨0, by omega, rfl, MC, hMs, fun i hi => absurd hi (Nat.not_lt_zero _), rfl⟩
  case round =>
    obtain ⟨k, hk, rfl, c, hc, hv, rfl⟩ := hrel
    by_cases hlt : k < len
    · have h1 := unhide HC k hlt
      have hbl := block_lt_of_cell h1
      have h2 : (w.alloc (.cells c 33)).cell? (x.add k) = some (.int .i64 (ts k)) := by
        rw [((Below.refl w.heap.size w).alloc (Nat.le_refl _) (.cells c 33)).cell hbl]; exact h1
      have h3 : (w.alloc (.cells c 33)).cell? ⟨w.heap.size, k, none⟩ = c[k]? := by
        rw [cell_of_row _ w.heap.size k c 33 (0, 0) (heap_alloc_new w _)]
      obtain ⟨v0, hv0⟩ : ∃ v0, c[k]? = some v0 := ⟨c[k], by rw [Array.getElem?_eq_getElem (by omega)]⟩
      rw [hv0] at h3
      clear h1
      go_wp2
      go_roundw
      case rel =>
        refine ⟨k + 1, by omega, by go_num, _, by simpa using hc, fun i hi => ?_, rfl⟩
        rw [Array.getElem?_setIfInBounds]
        by_cases he : k = i
        · subst he; rw [if_pos rfl, if_pos (by omega)]
        · rw [if_neg he]; exact unhide hv i (by omega)
      case measure => simp [intOf]; omega
    · obtain rfl : k = len := by omega
      go_wp2
      go_ret
      exact ⟨c, hc, unhide hv, rfl, rfl⟩

set_option maxHeartbeats 1000000 in
theorem dur_nil (w : World) :
    Calls Try.prog 7 #[.slice none 0 0] w fun e w' => ∃ c : Array Value, c.size = 0 ∧
      e = .returned (.slice (some ⟨w.heap.size, 0, none⟩) 0 0) ∧ w' = w.alloc (.cells c 33) := by
  obtain ⟨MC, hMC⟩ : ∃ MC : Array Value, MC = madeCells #[.int .i64 0] 0 := ⟨_, rfl⟩
  have hmk : ∀ W, (Instr.makeSlice 27 (.int .i64 0) (.int .i64 0)).run Try.prog W = .ok (.slice (some ⟨W.heap.size, 0, none⟩) 0 0) (W.alloc (.cells (madeCells #[.int .i64 0] 0) 33)) := fun W => run_make_row' (P := Try.prog) 27 33 (.int .i64 0) 8 Try.underlying27 info33 rfl .i64 .i64 0 (by omega) (by omega) W
  have hMs : MC.size = 0 := by rw [hMC, size_madeCells]
  rw [← hMC] at hmk
  clear hMC
  go_enter Try.func7, Try.ntmps7
  go_wp2
  go_loopw [4] (fun t wr => t = .int .i64 0 ∧ wr = w.alloc (.cells MC 33)) (fun t _ => 0)
  case atStart => exact ⟨rfl, rfl⟩
  case round =>
    obtain ⟨rfl, rfl⟩ := hrel
    go_wp2
    go_ret
    exact ⟨MC, hMs, rfl, rfl⟩
end Go.Proofs.Qxb6608579a
