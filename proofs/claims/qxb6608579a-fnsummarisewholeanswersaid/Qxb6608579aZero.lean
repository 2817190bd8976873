/- FnSummariseWholeAnswer of no times. -/
import Derived.Test.Qxb6608579aLaw3
namespace Go.Proofs.Qxb6608579a
open Go.RowKit

set_option maxHeartbeats 1000000 in
theorem dur_none (a : Option Addr) (cap : Nat) (w : World) :
    Calls Try.prog 7 #[.slice a 0 cap] w fun e w' => e = .returned (.slice (some ⟨w.heap.size, 0, none⟩) 0 0) ∧ Below w.heap.size w w' := by
  obtain ⟨MC, hMC⟩ : ∃ MC : Array Value, MC = madeCells #[.int .i64 0] 0 := ⟨_, rfl⟩
  have hmk : ∀ W, (Instr.makeSlice 27 (.int .i64 0) (.int .i64 0)).run Try.prog W = .ok (.slice (some ⟨W.heap.size, 0, none⟩) 0 0) (W.alloc (.cells (madeCells #[.int .i64 0] 0) 33)) := fun W => run_make_row' (P := Try.prog) 27 33 (.int .i64 0) 8 Try.underlying27 info33 rfl .i64 .i64 0 (by omega) (by omega) W
  rw [← hMC] at hmk
  clear hMC
  go_enter Try.func7, Try.ntmps7
  go_wp2
  go_loopw [4] (fun t wr => t = .int .i64 0 ∧ wr = w.alloc (.cells MC 33)) (fun _ _ => 0)
  case atStart => exact ⟨rfl, rfl⟩
  case round =>
    obtain ⟨rfl, rfl⟩ := hrel
    go_wp2
    go_ret
    exact ⟨rfl, (Below.refl _ w).alloc (Nat.le_refl _) _⟩

set_option maxRecDepth 100000 in
set_option maxHeartbeats 2000000 in
theorem main_none (a : Option Addr) (cap : Nat) (w : World) :
    Calls Try.prog 3 #[.slice a 0 cap] w fun e w' => e = .returned (.bool true) ∧ Below w.heap.size w w' := by
  go_enter Try.func3, Try.ntmps3
  go_wp2_with fail
  refine (bytes_walk a 0 cap (by omega) w).mono ?_
  rintro e w0 ⟨rfl, rfl⟩
  rw [decide_eq_true (show (0 : Nat) ≤ 1048576 by omega)]
  go_wp2_with fail
  refine (dur_none a cap _).mono ?_
  rintro e w1 ⟨rfl, hb1⟩
  have HB1 := hide hb1
  clear hb1
  go_wp2_with fail
  refine (zzsum_none _ _ _).mono ?_
  rintro e w2 ⟨m, s, n1, n2, rfl, hb2⟩
  have HB2 := hide hb2
  have z0 : (FloatKind.f64.format.order 0 0 == some .eq) = true := by decide +kernel
  have z1 : (FloatKind.f64.format.order m m != some .eq) = true := n1.1
  have z2 : (FloatKind.f64.format.order s s != some .eq) = true := n2.1
  clear hb2 n1 n2
  go_wp2
  go_ret
  exact ⟨rfl, (unhide HB1).trans ((unhide HB2).mono (unhide HB1).size)⟩
end Go.Proofs.Qxb6608579a
