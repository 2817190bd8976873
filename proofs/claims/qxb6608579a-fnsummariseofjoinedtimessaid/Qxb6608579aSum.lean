/- cmd.summarise. -/
import Derived.Test.Qxb6608579aTop
namespace Go.Proofs.Qxb6608579a
open Go.RowKit

set_option maxHeartbeats 4000000 in
/-- (12) summarise, of one time or more -/
theorem sum_walk (x : Addr) (n c : Nat) (ts : Nat → Int) (M : Rat) (w : World) (hW : Within (fun i => ms (ts i)) n M) (hfit : ∀ i, i < n → Fits (ts i))
    (hcell : ∀ i, i < n → w.cell? (x.add i) = some (.int .i64 (ts i))) :
    Calls Try.prog 12 #[.slice (some x) n c] w fun e w' => e = .returned (.tuple #[.float .f64 (meanW (fun i => ms (ts i)) n), .float .f64 (sdW (fun i => ms (ts i)) n), .float .f64 (mostTo (fun i => ms (ts i)) n)]) ∧ w' = w := by
  have hn1 := hW.pos
  have hn2 := hW.few
  obtain ⟨X, hX⟩ : ∃ X : Nat → Nat, X = fun i => ms (ts i) := ⟨_, rfl⟩
  have HE : Hid (∀ i, X i = ms (ts i)) := fun i => by rw [hX]
  rw [← hX] at hW ⊢
  clear hX
  have HW := hide hW
  have HC := hide hcell
  have HF := hide hfit
  clear hW hcell hfit
  go_enter Try.func12, Try.ntmps12
  go_wp2
  go_loop [4, 6, 14] (fun t4 t6 t => ∃ k : Nat, k ≤ n ∧ t = .int .i64 k ∧ t6 = .float .f64 (accTo X k) ∧ t4 = .float .f64 (mostTo X k)) (fun _ _ t => n - (intOf t).toNat)
  case atStart => exact ⟨0, by omega, rfl, rfl, rfl⟩
  case round =>
    obtain ⟨k, hk, rfl, rfl, rfl⟩ := hrel
    by_cases hlt : k < n
    · have h1 := unhide HC k hlt
      have ha := fun ty w => run_add (acc_some X k (acc_mean (unhide HW) k hk).fin ((unhide HW).all k hlt).1) ty w
      have hm := fun tys ty w => run_max (max_order (most_spec X k (fun i hi => ((unhide HW).all i (by omega)).1)).1 ((unhide HW).all k hlt).1) tys ty w
      have hS : fmax (mostTo X k) (X k) = mostTo X (k + 1) := rfl
      rw [hS] at hm
      have hb := (unhide HF k hlt).abs
      obtain ⟨A, hA⟩ : ∃ A, A = accTo X k := ⟨_, rfl⟩
      obtain ⟨A', hA'⟩ : ∃ A, A = accTo X (k + 1) := ⟨_, rfl⟩
      obtain ⟨B, hB⟩ : ∃ A, A = mostTo X k := ⟨_, rfl⟩
      obtain ⟨B', hB'⟩ : ∃ A, A = mostTo X (k + 1) := ⟨_, rfl⟩
      rw [← hA, ← hA'] at ha
      rw [← hB, ← hB'] at hm
      rw [← hA, ← hB]
      rw [unhide HE k] at ha hm
      clear hA hB hS
      go_wp2_with fail
      refine (ms_walk (ts k) hb _).mono ?_
      rintro e w1 ⟨rfl, rfl⟩
      go_wp2_with fail
      refine (ms_walk (ts k) hb _).mono ?_
      rintro e w1 ⟨rfl, rfl⟩
      go_wp2
      go_round
      case rel => exact ⟨k + 1, by omega, by go_num, rfl, rfl⟩
      case measure => simp [intOf]; omega
    · obtain rfl : k = n := by omega
      have hd := fun ty w => run_div (mean_near (unhide HW)).1 ty w
      obtain ⟨A, hA⟩ : ∃ A, A = accTo X k := ⟨_, rfl⟩
      rw [← hA] at hd
      rw [← hA]
      clear hA
      go_wp2
      go_loop [9, 36] (fun t9 t => ∃ m : Nat, m ≤ k ∧ t = .int .i64 m ∧ t9 = .float .f64 (accTo (sqT X (meanW X k)) m)) (fun _ t => k - (intOf t).toNat)
      case atStart => exact ⟨0, by omega, rfl, rfl⟩
      case round =>
        obtain ⟨m, hm, rfl, rfl⟩ := hrel
        by_cases hlt2 : m < k
        · have h1 := unhide HC m hlt2
          obtain ⟨s1, s2, s3, s4, s5⟩ := sqT_near (unhide HW) m hlt2
          have e1 := fun ty w => run_sub s1 ty w
          have e2 := fun ty w => run_mul s2 ty w
          have e3 := fun ty w => run_add (acc_some (sqT X (meanW X k)) m (acc_sq (unhide HW) m hm).1.fin s3.fin) ty w
          have hb := (unhide HF m hlt2).abs
          clear s1 s2 s3 s4 s5
          obtain ⟨A, hA⟩ : ∃ A, A = accTo (sqT X (meanW X k)) m := ⟨_, rfl⟩
          obtain ⟨A', hA'⟩ : ∃ A, A = accTo (sqT X (meanW X k)) (m + 1) := ⟨_, rfl⟩
          obtain ⟨S, hS⟩ : ∃ A, A = sqT X (meanW X k) m := ⟨_, rfl⟩
          obtain ⟨D, hD⟩ : ∃ A, A = fsub (X m) (meanW X k) := ⟨_, rfl⟩
          rw [← hA, ← hA', ← hS] at e3
          rw [← hD, ← hS] at e2
          rw [← hD, unhide HE m] at e1
          rw [← hA]
          clear hA hS hD
          go_wp2_with fail
          refine (ms_walk (ts m) hb _).mono ?_
          rintro e w1 ⟨rfl, rfl⟩
          go_wp2_with fail
          refine (ms_walk (ts m) hb _).mono ?_
          rintro e w1 ⟨rfl, rfl⟩
          go_wp2
          go_round
          case rel => exact ⟨m + 1, by omega, by go_num, rfl⟩
          case measure => simp [intOf]; omega
        · obtain rfl : m = k := by omega
          have hd2 := fun ty w => run_div (var_near (unhide HW)).1 ty w
          have hq := fun w => sqrt_walk (sd_near (unhide HW)).1 w
          obtain ⟨A, hA⟩ : ∃ A, A = accTo (sqT X (meanW X m)) m := ⟨_, rfl⟩
          rw [← hA] at hd2
          rw [← hA]
          clear hA hd
          have HQ := hide hq
          clear hq
          go_wp2_with fail
          refine (unhide HQ _).mono ?_
          rintro e w1 ⟨rfl, rfl⟩
          go_wp2
          go_ret3
          exact ⟨rfl, rfl⟩

set_option maxHeartbeats 1000000 in
/-- (6) ZZsummarise -/
theorem zzsum_walk (x : Addr) (n c : Nat) (ts : Nat → Int) (M : Rat) (w : World) (hW : Within (fun i => ms (ts i)) n M) (hfit : ∀ i, i < n → Fits (ts i))
    (hcell : ∀ i, i < n → w.cell? (x.add i) = some (.int .i64 (ts i))) :
    Calls Try.prog 6 #[.slice (some x) n c] w fun e w' => e = .returned (.tuple #[.float .f64 (meanW (fun i => ms (ts i)) n), .float .f64 (sdW (fun i => ms (ts i)) n), .float .f64 (mostTo (fun i => ms (ts i)) n)]) ∧ w' = w := by
  have H := hide (sum_walk x n c ts M w hW hfit hcell)
  clear hW hfit hcell
  obtain ⟨A, hA⟩ : ∃ A, A = meanW (fun i => ms (ts i)) n := ⟨_, rfl⟩
  obtain ⟨B, hB⟩ : ∃ A, A = sdW (fun i => ms (ts i)) n := ⟨_, rfl⟩
  obtain ⟨C, hC⟩ : ∃ A, A = mostTo (fun i => ms (ts i)) n := ⟨_, rfl⟩
  rw [← hA, ← hB, ← hC] at H ⊢
  clear hA hB hC
  go_enter Try.func6, Try.ntmps6
  go_wp2_with fail
  refine (unhide H).mono ?_
  rintro e w1 ⟨rfl, rfl⟩
  go_wp2
  go_ret3
  exact ⟨rfl, rfl⟩
end Go.Proofs.Qxb6608579a
