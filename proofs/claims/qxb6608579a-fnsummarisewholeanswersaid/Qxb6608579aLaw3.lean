/- FnSummariseWholeAnswer: the walk. -/
import Derived.Test.Qxb6608579aNone
import Derived.Test.Qxb6608579aInts
namespace Go.Proofs.Qxb6608579a
open Go.RowKit

theorem info24 : (Try.prog.info? 24).map (fun i => (i.zero, i.size, i.bytes)) = some (some (Value.float .f64 0), 1, 8) := by kernel_rfl

theorem run_store_float (P : Program) (w : World) (a : Addr) (m : Mode) (k : FloatKind) (b : Nat) : (store a (.float k b) m).run P w = stored P w a (.float k b) m := run_store P w a _ m rfl
attribute [local go_sem] run_store_float

/-- What the greatest magnitude is good for. -/
theorem within_big (ts : Nat → Int) (n : Nat) (h1 : 1 ≤ n) (h2 : n ≤ 131072) (ht : ∀ i, i < n → Fits (ts i)) :
    Fin (bigTo 0 (fun i => ms (ts i)) n) ∧ Within (fun i => ms (ts i)) n (val (bigTo 0 (fun i => ms (ts i)) n)) := by
  have hf : ∀ i, i < n → Fin (ms (ts i)) := fun i hi => (ms_near _ (ht i hi).abs).2.2.1
  obtain ⟨f, b0, b1, b2⟩ := big_spec 0 fin_zero (by rw [val_zero]; exact Rat.le_refl) (fun i => ms (ts i)) n hf
  rw [val_zero] at b0 b2
  refine ⟨f, ⟨?_, h1, h2, fun i hi => ⟨hf i hi, b1 i hi⟩⟩⟩
  rcases b2 with e | ⟨i, hi, e⟩
  · rw [e]; exact ⟨.inl rfl, by decide +kernel⟩
  · exact ms_size (ht i hi) _ e b0

theorem top_is (ts : Nat → Int) (n : Nat) (us : Nat → Int) (r : Nat) (ht : ∀ i, i < n → Fits (ts i)) (h : IsTop ts n us 0 r) :
    Ieee.double.order (mostTo (fun i => ms (ts i)) n) r = some .eq := by
  refine top_eq ts n ht r ?_
  obtain ⟨f, t, hB, hr⟩ := h
  rcases hB with ⟨hf, hn, _⟩ | ⟨hf, h1, _, h3⟩
  · rcases hr with ⟨hr, _⟩ | ⟨_, hf', _⟩
    · exact .inl ⟨hr, fun i hi => by omega⟩
    · rw [hf] at hf'; cases hf'
  · rcases h3 with ⟨j, hj, rfl⟩ | ⟨j, hj, _⟩
    · rcases hr with ⟨hr, hf' | h0⟩ | ⟨hr, _, h0⟩
      · rw [hf] at hf'; cases hf'
      · exact .inl ⟨hr, fun i hi => Int.le_trans (h1 i hi) h0⟩
      · exact .inr ⟨j, hj, h0, h1, hr⟩
    · omega

set_option maxRecDepth 100000 in
set_option maxHeartbeats 8000000 in
theorem main_row (x : Addr) (n cap : Nat) (ts : Nat → Int) (w : World) (hn : n ≤ 9223372036854775807) (hlc : n ≤ cap) (h1 : 1 ≤ n)
    (hcell : ∀ i, i < n → w.cell? (x.add i) = some (.int .i64 (ts i))) (hfit : ∀ i, i < n → Fits (ts i)) :
    Calls Try.prog 3 #[.slice (some x) n cap] w fun e w' => e = .returned (.bool true) ∧ Below w.heap.size w w' := by
  have HC := hide hcell
  have HF := hide hfit
  clear hcell hfit
  by_cases hbig : n ≤ 1048576
  · by_cases h4 : n ≤ 4096
    · go_enter Try.func3, Try.ntmps3
      go_wp2_with fail
      refine (bytes_walk (some x) n cap hn w).mono ?_
      rintro e w0 ⟨rfl, rfl⟩
      rw [decide_eq_true hbig]
      go_wp2_with fail
      refine (dur_walk x n cap ts _ (by omega) hlc (unhide HC)).mono ?_
      rintro e w1 ⟨c, hc, hcc, rfl, hw1⟩
      have hb1 : Below w0.heap.size w0 w1 := by rw [hw1]; exact (Below.refl _ w0).alloc (Nat.le_refl _) _
      have hc1 : ∀ i, i < n → w1.cell? ((⟨w0.heap.size, 0, none⟩ : Addr).add i) = some (.int .i64 (ts i)) := fun i hi => by
        rw [add_new, hw1, cell_of_row _ w0.heap.size i c 33 (0, 0) (heap_alloc_new w0 _)]; exact hcc i hi
      have hx1 : ∀ i, i < n → w1.cell? (x.add i) = some (.int .i64 (ts i)) := fun i hi => by
        have := unhide HC i hi
        rw [hb1.cell (block_lt_of_cell this)]; exact this
      clear hw1 hc hcc c
      have HB1 := hide hb1
      have HC1 := hide hc1
      have HX1 := hide hx1
      clear hb1 hc1 hx1 HC
      obtain ⟨hbf, hW⟩ := within_big ts n h1 (by omega) (unhide HF)
      have HBF := hide hbf
      have HW := hide hW
      clear hbf hW
      obtain ⟨BIG, hBIG⟩ : ∃ B, B = bigTo 0 (fun i => ms (ts i)) n := ⟨_, rfl⟩
      rw [← hBIG] at HBF HW
      have HBIG := hide hBIG
      clear hBIG
      obtain ⟨X, hX⟩ : ∃ X : Nat → Nat, X = fun i => ms (ts i) := ⟨_, rfl⟩
      obtain ⟨MEAN, hMEAN⟩ : ∃ A, A = meanW X n := ⟨_, rfl⟩
      obtain ⟨SD, hSD⟩ : ∃ A, A = sdW X n := ⟨_, rfl⟩
      have HX := hide hX
      have HMEAN := hide hMEAN
      have HSD := hide hSD
      clear hX hMEAN hSD
      go_wp2_with fail
      refine (zzsum_walk ⟨w0.heap.size, 0, none⟩ n n ts (val BIG) w1 (unhide HW) (unhide HF) (unhide HC1)).mono ?_
      rintro e w2 ⟨rfl, rfl⟩
      rw [← unhide HX, ← unhide HMEAN, ← unhide HSD, unhide HX]
      go_wp2_with fail
      refine (most_walk x n cap ts none 0 0 ts w2 (by omega) (by omega) (unhide HX1) (fun i hi => absurd hi (Nat.not_lt_zero _)) (unhide HF) (fun i hi => absurd hi (Nat.not_lt_zero _))).mono ?_
      rintro e w3 ⟨r, rfl, htop, rfl⟩
      have ho := top_is ts n ts r (unhide HF) htop
      clear htop
      have hne : (FloatKind.f64.format.order (mostTo (fun i => ms (ts i)) n) r != some .eq) = false := by
        change (Ieee.double.order _ _ != _) = _
        rw [ho]; rfl
      clear ho
      obtain ⟨MOST, hMOST⟩ : ∃ A, A = mostTo (fun i => ms (ts i)) n := ⟨_, rfl⟩
      rw [← hMOST] at hne ⊢
      clear hMOST
      go_wp2_with fail
      refine (big_walk x n cap ts none 0 0 ts w3 (by omega) (by omega) (unhide HX1) (fun i hi => absurd hi (Nat.not_lt_zero _)) (unhide HF) (fun i hi => absurd hi (Nat.not_lt_zero _))).mono ?_
      rintro e w4 ⟨rfl, rfl⟩
      have hBB : bigTo (bigTo 0 (fun i => ms (ts i)) n) (fun i => ms (ts i)) 0 = BIG := (unhide HBIG).symm
      rw [hBB]
      clear hBB hne
      go_wp2
      go_loop [9, 10, 11] (fun t9 t10 t => ∃ k : Nat, k ≤ n ∧ t = .int .i64 k ∧ t9 = .int .i64 (quoI ts n k) ∧ t10 = .int .i64 (remI ts n k)) (fun _ _ t => n - (intOf t).toNat)
      case atStart => exact ⟨0, by omega, rfl, rfl, rfl⟩
      case round =>
        obtain ⟨k, hk, rfl, rfl, rfl⟩ := hrel
        by_cases hlt : k < n
        · have hc := unhide HX1 k hlt
          have q0 := quo_fits ts n h1 (unhide HF) k hk
          have q1 : Fits (quoI ts n k + (ts k).tdiv n) := quo_fits ts n h1 (unhide HF) (k + 1) (by omega)
          have q2 := one_fits n h1 (ts k) (unhide HF k hlt)
          have r0 := rem_small ts n h1 h4 k hk
          obtain ⟨_, _, _, m1, m2, _, _⟩ := tdiv_all (ts k) n h1
          unfold Fits at q0 q1 q2
          go_wp2
          go_round
          case rel => exact ⟨k + 1, by omega, by go_num, rfl, rfl⟩
          case measure => simp [intOf]; omega
        · obtain rfl : k = n := by omega
          obtain ⟨⟨q1, q2⟩, r1, r2⟩ := quo_size ts k h1 (val BIG) (fun i hi => ms_back (unhide HF i hi) ((unhide HW).all i hi).2.1 ((unhide HW).all i hi).2.2)
          have r34 := rem_small ts k h1 h4 k (Nat.le_refl _)
          have r3 : -9007199254740992 < remI ts k k := by omega
          have r4 : remI ts k k < 9007199254740992 := by omega
          obtain ⟨_, _, _, d1, d2, d3, _⟩ := want_near (quoI ts k k) (remI ts k k) k (val BIG) (unhide HW).ok h1 (by omega) q1 q2 r1 r2 r3 r4
          obtain ⟨t1, t2, t3, t4, t5⟩ := mean_test ts k BIG h4 (unhide HBF) (unhide HW) (unhide HF) _ _ (sums ts k h1 k) q1 q2 r1 r2 r3 r4
          rw [← unhide HX, ← unhide HMEAN] at t1 t5
          have f1 := fun ty w => run_div d1 ty w
          have f2 := fun ty w => run_add d2 ty w
          have f3 : ∀ ty w, (binOp .quo ty (.float .f64 (fadd (floatOfInt .f64 (quoI ts k k)) (fdiv (floatOfInt .f64 (remI ts k k)) (floatOfInt .f64 (k : Int))))) (.float .f64 4696837146684686336)).run Try.prog w = .ok (.float .f64 (wantMean (quoI ts k k) (remI ts k k) k)) w := fun ty w => run_div d3 ty w
          have f4 := fun ty w => run_sub t1 ty w
          have f5 : ∀ ty w, (binOp .mul ty (.float .f64 BIG) (.float .f64 4472074429978902528)).run Try.prog w = .ok (.float .f64 (fmul BIG C30)) w := fun ty w => run_mul t2 ty w
          have f6 : (FloatKind.f64.format.order (fabs (fsub MEAN (wantMean (quoI ts k k) (remI ts k k) k))) (fmul BIG C30) == some .gt) = false := t5
          clear t1 t2 t3 t4 t5 d1 d2 d3 q1 q2 r1 r2 r3 r4 r34
          generalize hWM : wantMean (quoI ts k k) (remI ts k k) k = WM at *
          clear hWM
          generalize hF3 : fmul BIG C30 = LIM at *
          clear hF3
          generalize hF2 : fadd (floatOfInt .f64 (quoI ts k k)) (fdiv (floatOfInt .f64 (remI ts k k)) (floatOfInt .f64 (k : Int))) = SUM at *
          clear hF2
          generalize hF1 : fdiv (floatOfInt .f64 (remI ts k k)) (floatOfInt .f64 (k : Int)) = PART at *
          clear hF1
          go_wp2_with fail
          refine (abs_walk _ _).mono ?_
          rintro e w5 ⟨rfl, rfl⟩
          have hmk := fun W => run_make_row' (P := Try.prog) 31 24 (.float .f64 0) 8 Try.underlying31 info24 rfl .i64 .i64 k (by omega) (by omega) W
          obtain ⟨MC, hMC⟩ : ∃ MC : Array Value, MC = madeCells #[.float .f64 0] k := ⟨_, rfl⟩
          have hMs : MC.size = k := by rw [hMC, size_madeCells]
          rw [← hMC] at hmk
          clear hMC f1 f2 f3 f4
          go_wp2
          go_loopw [14] (fun t wr => ∃ m : Nat, m ≤ k ∧ t = .int .i64 m ∧ ∃ c : Array Value, c.size = k ∧ Hid (∀ i, i < m → c[i]? = some (.float .f64 (X i))) ∧ wr = w5.alloc (.cells c 24)) (fun t _ => k - (intOf t).toNat)
          case atStart => exact ⟨0, by omega, rfl, MC, hMs, fun i hi => absurd hi (Nat.not_lt_zero _), rfl⟩
          case round =>
            obtain ⟨m, hm, rfl, c, hc, hv, rfl⟩ := hrel
            by_cases hlt2 : m < k
            · have g1 := unhide HX1 m hlt2
              have hbl := block_lt_of_cell g1
              have g2 : (w5.alloc (.cells c 24)).cell? (x.add m) = some (.int .i64 (ts m)) := by
                rw [((Below.refl w5.heap.size w5).alloc (Nat.le_refl _) (.cells c 24)).cell hbl]; exact g1
              have g3 : (w5.alloc (.cells c 24)).cell? ⟨w5.heap.size, m, none⟩ = c[m]? := by
                rw [cell_of_row _ w5.heap.size m c 24 (0, 0) (heap_alloc_new w5 _)]
              obtain ⟨v0, hv0⟩ : ∃ v0, c[m]? = some v0 := ⟨c[m], by rw [Array.getElem?_eq_getElem (by omega)]⟩
              rw [hv0] at g3
              have hd : ∀ ty w, (binOp .quo ty (.float .f64 (floatOfInt .f64 (ts m))) (.float .f64 4696837146684686336)).run Try.prog w = .ok (.float .f64 (X m)) w :=
                fun ty w => by rw [unhide HX]; exact run_div (ms_near (ts m) (unhide HF m hlt2).abs).1 ty w
              clear g1
              go_wp2
              go_roundw
              case rel =>
                refine ⟨m + 1, by omega, by go_num, _, by simpa using hc, fun i hi => ?_, rfl⟩
                rw [Array.getElem?_setIfInBounds]
                by_cases he : m = i
                · subst he; rw [if_pos rfl, if_pos (by omega)]
                · rw [if_neg he]; exact unhide hv i (by omega)
              case measure => simp [intOf]; omega
            · obtain rfl : m = k := by omega
              obtain ⟨W, hWW⟩ : ∃ W, W = w5.alloc (.cells c 24) := ⟨_, rfl⟩
              have hbW : Below w0.heap.size w0 W := by rw [hWW]; exact (unhide HB1).alloc ((unhide HB1).size) _
              have hcW : ∀ i, i < m → W.cell? ⟨w5.heap.size, i, none⟩ = some (.float .f64 (X i)) := fun i hi => by
                rw [hWW, cell_of_row _ w5.heap.size i c 24 (0, 0) (heap_alloc_new w5 _)]; exact unhide hv i hi
              rw [← hWW]
              clear hWW hv hc
              have HBW := hide hbW
              have HCW := hide hcW
              clear hbW hcW
              have hW' := unhide HW
              rw [← unhide HX] at hW'
              have HWX := hide hW'
              clear hW' HW hmk f5 f6 hMs
              go_wp2
              go_loopw [15, 16] (fun t15 t16 wr => ∃ a : Nat, a ≤ m ∧ t16 = .int .i64 a ∧ t15 = .float .f64 (accTo (rowW X m) a) ∧ Hid (∃ q, wr = W.drewN q)) (fun _ t _ => m - (intOf t).toNat)
              case atStart => exact ⟨0, by omega, rfl, rfl, 0, rfl⟩
              case round =>
                obtain ⟨a, ha, rfl, rfl, q, rfl⟩ := hrel
                by_cases hlta : a < m
                · go_wp2
                  go_loopw [17, 18] (fun t17 t18 wr => ∃ b : Nat, b ≤ m ∧ t18 = .int .i64 b ∧ t17 = .float .f64 (accTo (pairT X a) b) ∧ Hid (∃ q, wr = W.drewN q)) (fun _ t _ => m - (intOf t).toNat)
                  case atStart => exact ⟨0, by omega, rfl, rfl, q, rfl⟩
                  case round =>
                    obtain ⟨b, hb, rfl, rfl, q', rfl⟩ := hrel
                    by_cases hltb : b < m
                    · have g1 := unhide HCW a hlta
                      have g2 := unhide HCW b hltb
                      obtain ⟨s1, s2, s3, s4, _, _⟩ := pair_near (unhide HWX) a b hlta hltb
                      have e1 := fun ty w => run_sub s1 ty w
                      have e2 := fun ty w => run_mul s2 ty w
                      have e3 := fun ty w => run_add (acc_some (pairT X a) b (acc_row (unhide HWX) a hlta b hb).1.fin s4.fin) ty w
                      clear s1 s2 s3 s4
                      go_wp2
                      go_quiet (fail)
                      go_wp2
                      go_roundw
                      case rel => exact ⟨b + 1, by omega, by go_num, rfl, q' + nq, rfl⟩
                      case measure => simp [intOf]; omega
                    · obtain rfl : b = m := by omega
                      have e3 := fun ty w => run_add (acc_some (rowW X b) a (acc_tot (unhide HWX) a ha).1.fin (row_near (unhide HWX) a hlta).1.fin) ty w
                      have hR : accTo (pairT X a) b = rowW X b a := rfl
                      rw [hR]
                      clear hR
                      go_wp2
                      go_roundw
                      case rel => exact ⟨a + 1, by omega, by go_num, rfl, q', rfl⟩
                      case measure => simp [intOf]; omega
                · obtain rfl : a = m := by omega
                  obtain ⟨v1, v2, _, _⟩ := den_val a (by omega)
                  obtain ⟨v3, _⟩ := wantVar_near (unhide HWX)
                  obtain ⟨y1, y2, _, y4, y5, y6⟩ := var_test X a BIG h4 (unhide HBF) (unhide HWX)
                  rw [← unhide HSD] at y1 y2 y6
                  have e1 : ∀ ty w, (binOp .mul ty (.float .f64 4611686018427387904) (.float .f64 (floatOfInt .f64 (a : Int)))).run Try.prog w = .ok (.float .f64 (fmul W2 (floatOfInt .f64 (a : Int)))) w := fun ty w => run_mul v1 ty w
                  have e2 := fun ty w => run_mul v2 ty w
                  have e3 := fun ty w => run_div v3 ty w
                  have e4 := fun ty w => run_mul y1 ty w
                  have e5 := fun ty w => run_sub y2 ty w
                  have e6 := fun ty w => run_mul y4 ty w
                  have e7 : ∀ ty w, (binOp .mul ty (.float .f64 (fmul BIG BIG)) (.float .f64 4499096027743125504)).run Try.prog w = .ok (.float .f64 (fmul (fmul BIG BIG) C24)) w := fun ty w => run_mul y5 ty w
                  have e8 : (FloatKind.f64.format.order (fabs (fsub (fmul SD SD) (wantVar X a))) (fmul (fmul BIG BIG) C24) == some .lt || FloatKind.f64.format.order (fabs (fsub (fmul SD SD) (wantVar X a))) (fmul (fmul BIG BIG) C24) == some .eq) = true := y6
                  have hT : accTo (rowW X a) a = totW X a := rfl
                  rw [hT]
                  clear hT v1 v2 v3 y1 y2 y4 y5 y6
                  generalize hG1 : fmul (fmul BIG BIG) C24 = L2 at *
                  clear hG1
                  generalize hG2 : fmul BIG BIG = L1 at *
                  clear hG2
                  generalize hG3 : fsub (fmul SD SD) (wantVar X a) = DIFF at *
                  clear hG3
                  generalize hG4 : fmul SD SD = SQ at *
                  clear hG4
                  generalize hG5 : fmul W2 (floatOfInt .f64 (a : Int)) = N2 at *
                  clear hG5
                  go_wp2_with fail
                  refine (abs_walk _ _).mono ?_
                  rintro e w6 ⟨rfl, rfl⟩
                  go_wp2
                  go_ret
                  refine ⟨by first | rfl | (show Ending.returned (Value.bool _) = _; rw [e8]), ?_⟩
                  have hq : Below w0.heap.size W (W.drewN q) := ⟨rfl, rfl, rfl, Nat.le_refl _, fun _ _ => rfl⟩
                  exact (unhide HBW).trans hq
    · go_enter Try.func3, Try.ntmps3
      go_wp2_with fail
      refine (bytes_walk (some x) n cap hn w).mono ?_
      rintro e w0 ⟨rfl, rfl⟩
      rw [decide_eq_true hbig]
      go_wp2
      go_ret
      exact ⟨rfl, Below.refl _ _⟩
  · go_enter Try.func3, Try.ntmps3
    go_wp2_with fail
    refine (bytes_walk (some x) n cap hn w).mono ?_
    rintro e w0 ⟨rfl, rfl⟩
    rw [decide_eq_false hbig]
    go_wp2
    go_ret
    exact ⟨rfl, Below.refl _ _⟩
end Go.Proofs.Qxb6608579a
