/- FnSummariseOfJoinedTimes: the walk. -/
import Derived.Test.Qxb6608579aLaw4
import Derived.OwnWalk
namespace Go.Proofs.Qxb6608579a
open Go.RowKit

set_option maxRecDepth 100000 in
set_option maxHeartbeats 8000000 in
theorem main4_row (x y : Addr) (na ca nb cb : Nat) (ts us : Nat → Int) (w : World) (ha1 : 1 ≤ na) (hb1 : 1 ≤ nb) (ha2 : na ≤ 65536) (hb2 : nb ≤ 65536) (hac : na ≤ ca) (hbc : nb ≤ cb)
    (hcell : ∀ i, i < na → w.cell? (x.add i) = some (.int .i64 (ts i))) (hcell2 : ∀ i, i < nb → w.cell? (y.add i) = some (.int .i64 (us i)))
    (hf1 : ∀ i, i < na → Fits (ts i)) (hf2 : ∀ i, i < nb → Fits (us i)) :
    Calls Try.prog 4 #[.slice (some x) na ca, .slice (some y) nb cb] w fun e w' => e = .returned (.bool true) ∧ Below w.heap.size w w' := by
  have HC := hide hcell
  have HD := hide hcell2
  have HF1 := hide hf1
  have HF2 := hide hf2
  clear hcell hcell2 hf1 hf2
  obtain ⟨JS, hJS⟩ : ∃ J, J = joinI ts us na := ⟨_, rfl⟩
  have HJS := hide hJS
  clear hJS
  have hN : (na : Int) + (nb : Int) = ((na + nb : Nat) : Int) := by omega
  have hmk : ∀ W, (Instr.makeSlice 22 (.int .i64 0) (.int .i64 ((na : Int) + (nb : Int)))).run Try.prog W = .ok (.slice (some ⟨W.heap.size, 0, none⟩) 0 (na + nb)) (W.alloc (.cells (madeCells #[.int .i64 0] (na + nb)) 2)) := fun W => by
    rw [hN]
    exact run_make_room (P := Try.prog) 22 2 (.int .i64 0) 8 Try.underlying22 info2 rfl .i64 .i64 (na + nb) (by omega) (by omega) W
  obtain ⟨MC, hMC⟩ : ∃ MC : Array Value, MC = madeCells #[.int .i64 0] (na + nb) := ⟨_, rfl⟩
  have hMs : MC.size = na + nb := by rw [hMC, size_madeCells]
  rw [← hMC] at hmk
  clear hMC hN
  obtain ⟨i0, hi0, hs0⟩ := info2'
  have hz1 : ((na : Int) == 0) = false := beq_eq_false_iff_ne.2 (by omega)
  have hz2 : ((nb : Int) == 0) = false := beq_eq_false_iff_ne.2 (by omega)
  go_enter Try.func4, Try.ntmps4
  go_wp2_with fail
  refine (bytes2_walk (some x) (some y) na ca nb cb (by omega) (by omega) w).mono ?_
  rintro e w0 ⟨⟨r, rfl⟩, rfl⟩
  cases r with
  | false =>
    go_wp2
    go_ret
    exact ⟨rfl, Below.refl _ _⟩
  | true =>
    go_wp2
    have own0 : (w0.alloc (.cells MC 2)).ownsRow w0.heap.size 2 1 (.slice (some ⟨w0.heap.size, 0, none⟩) 0 (na + nb)) 0 [] :=
      World.ownsRow_made w0 MC (na + nb) (Nat.le_refl _) (by unfold maxLen; omega) (by omega)
    have OWN0 := hide own0
    clear own0
    go_loopw [8, 9] (fun t8 t9 wr => ∃ k : Nat, k ≤ na ∧ t9 = .int .i64 k ∧ t8 = .slice (some ⟨w0.heap.size, 0, none⟩) k (na + nb) ∧
      Hid (wr.ownsRow w0.heap.size 2 1 (.slice (some ⟨w0.heap.size, 0, none⟩) k (na + nb)) k (lst JS k)) ∧ Hid (Below w0.heap.size w0 wr)) (fun _ t _ => na - (intOf t).toNat)
    case atStart => exact ⟨0, by omega, rfl, rfl, unhide OWN0, (Below.refl _ w0).alloc (Nat.le_refl _) _⟩
    case round =>
      obtain ⟨k, hk, rfl, rfl, hown, hbel⟩ := hrel
      by_cases hlt : k < na
      · have h1 := row_kept (unhide hbel) (unhide HC) k hlt
        obtain ⟨o1, o2, o3⟩ := app_ask w0.heap.size k (na + nb) (lst JS k) (ts k) w0 wr (unhide hown)
        have O1 := hide o1
        have O2 := hide o2
        have O3 := hide o3
        clear o1 o2 o3 hmk
        go_wp2_with (first
          | (at_builtin; refine wpList_append_own_spare _ rfl _ _ 22 rfl w0.heap.size 2 i0 1 Try.underlying22 hi0 hs0 w0.heap.size k (na + nb) (lst JS k) rfl (unhide O1) ⟨wr.heap.size, 0, none⟩ 1 1 [.int .i64 (ts k)] rfl rfl (unhide O2) (unhide O3) (by omega) ?_; intro w3 hown' hgrow3))
        have hj : JS k = ts k := by rw [unhide HJS]; exact joinI_left ts us hlt
        rw [← hj, lst_succ] at hown'
        have hbel' := app_below (unhide hown) (unhide hbel) hgrow3
        go_roundw
        case rel =>
          have R : k + 1 ≤ na ∧ Value.int .i64 ((k : Int) + 1) = .int .i64 ((k + 1 : Nat) : Int) ∧ Value.slice (some ⟨w0.heap.size, 0, none⟩) (k + 1) (na + nb) = .slice (some ⟨w0.heap.size, 0, none⟩) (k + 1) (na + nb) ∧
              Hid (w3.ownsRow w0.heap.size 2 1 (.slice (some ⟨w0.heap.size, 0, none⟩) (k + 1) (na + nb)) (k + 1) (lst JS (k + 1))) ∧ Hid (Below w0.heap.size w0 w3) :=
            ⟨by omega, by go_num, rfl, hown', hbel'⟩
          exact ⟨k + 1, R⟩
        case measure => simp [intOf]; omega
      · obtain rfl : k = na := by omega
        go_wp2
        go_loopw [8, 10] (fun t8 t9 wr => ∃ m : Nat, m ≤ nb ∧ t9 = .int .i64 m ∧ t8 = .slice (some ⟨w0.heap.size, 0, none⟩) (k + m) (k + nb) ∧
          Hid (wr.ownsRow w0.heap.size 2 1 (.slice (some ⟨w0.heap.size, 0, none⟩) (k + m) (k + nb)) (k + m) (lst JS (k + m))) ∧ Hid (Below w0.heap.size w0 wr)) (fun _ t _ => nb - (intOf t).toNat)
        case atStart => exact ⟨0, by omega, rfl, rfl, hown, hbel⟩
        case round =>
          clear hown hbel
          obtain ⟨m, hm, rfl, rfl, hown, hbel⟩ := hrel
          by_cases hlt2 : m < nb
          · have h1 := row_kept (unhide hbel) (unhide HD) m hlt2
            obtain ⟨o1, o2, o3⟩ := app_ask w0.heap.size (k + m) (k + nb) (lst JS (k + m)) (us m) w0 wr (unhide hown)
            have O1 := hide o1
            have O2 := hide o2
            have O3 := hide o3
            clear o1 o2 o3 hmk
            go_wp2_with (first
              | (at_builtin; refine wpList_append_own_spare _ rfl _ _ 22 rfl w0.heap.size 2 i0 1 Try.underlying22 hi0 hs0 w0.heap.size (k + m) (k + nb) (lst JS (k + m)) rfl (unhide O1) ⟨wr.heap.size, 0, none⟩ 1 1 [.int .i64 (us m)] rfl rfl (unhide O2) (unhide O3) (by omega) ?_; intro w3 hown' hgrow3))
            have hj : JS (k + m) = us m := by rw [unhide HJS]; exact joinI_right ts us k m
            rw [← hj, lst_succ] at hown'
            have hbel' := app_below (unhide hown) (unhide hbel) hgrow3
            go_roundw
            case rel =>
              have R : m + 1 ≤ nb ∧ Value.int .i64 ((m : Int) + 1) = .int .i64 ((m + 1 : Nat) : Int) ∧ Value.slice (some ⟨w0.heap.size, 0, none⟩) (k + m + 1) (k + nb) = .slice (some ⟨w0.heap.size, 0, none⟩) (k + (m + 1)) (k + nb) ∧
                  Hid (w3.ownsRow w0.heap.size 2 1 (.slice (some ⟨w0.heap.size, 0, none⟩) (k + (m + 1)) (k + nb)) (k + (m + 1)) (lst JS (k + (m + 1)))) ∧ Hid (Below w0.heap.size w0 w3) :=
                ⟨by omega, by go_num, rfl, hown', hbel'⟩
              exact ⟨m + 1, R⟩
            case measure => simp [intOf]; omega
          · obtain rfl : m = nb := by omega
            -- the three summaries
            have hcj : ∀ i, i < k + m → wr.cell? ((⟨w0.heap.size, 0, none⟩ : Addr).add i) = some (.int .i64 (JS i)) := fun i hi => by
              rw [add_new, World.ownsRow.cellAt (unhide hown) i (by omega)]; exact lst_at JS (k + m) i hi
            have HJ0 := hide hcj
            have HXJ := hide (row_kept (unhide hbel) (unhide HC))
            have HYJ := hide (row_kept (unhide hbel) (unhide HD))
            obtain ⟨hbf, hWa, hWb, hWj⟩ := within_both ts us k m ha1 hb1 (by omega) (unhide HF1) (unhide HF2)
            have hfj := fits_join ts us k m (unhide HF1) (unhide HF2)
            obtain ⟨BIG, hBIG⟩ : ∃ B, B = bigTo (bigTo 0 (fun i => ms (ts i)) k) (fun i => ms (us i)) m := ⟨_, rfl⟩
            rw [← hBIG] at hbf hWa hWb hWj
            rw [← unhide HJS] at hWj hfj
            have HBF := hide hbf
            have HWa := hide hWa
            have HWb := hide hWb
            have HWj := hide hWj
            have HFJ := hide hfj
            have HBIG := hide hBIG
            clear hcj hbf hWa hWb hWj hBIG hfj HC HD hmk OWN0 hown
            have hmost := most_join (joined_ms ts us k m) (fun i hi => (ms_near _ (unhide HF1 i hi).abs).2.2.1) (fun i hi => (ms_near _ (unhide HF2 i hi).abs).2.2.1)
            obtain ⟨P1, P2, P3, S, D, T, L1, e1, e2, e3, e4, e5, e6, e7, e8, GAP, A1, A2, B1, B2, W5, W6, SH, W8, W9, WANT, Z1, Z2, DD, U, L2, g1, g2, g3, g4, g5, g6, g7, g8, g9, g10, g11, g12, g13, g14, g15, g16, g17⟩ :=
              plan BIG (unhide HBF) (joined_ms ts us k m) (by rw [← unhide HJS]; exact unhide HWj) (unhide HWa) (unhide HWb)
            rw [← unhide HJS] at e1 g12 g13 hmost
            obtain ⟨MX, hMX⟩ : ∃ A, A = meanW (fun i => ms (JS i)) (k + m) := ⟨_, rfl⟩
            obtain ⟨MA, hMA⟩ : ∃ A, A = meanW (fun i => ms (ts i)) k := ⟨_, rfl⟩
            obtain ⟨MB, hMB⟩ : ∃ A, A = meanW (fun i => ms (us i)) m := ⟨_, rfl⟩
            obtain ⟨SX, hSX⟩ : ∃ A, A = sdW (fun i => ms (JS i)) (k + m) := ⟨_, rfl⟩
            obtain ⟨SA, hSA⟩ : ∃ A, A = sdW (fun i => ms (ts i)) k := ⟨_, rfl⟩
            obtain ⟨SB, hSB⟩ : ∃ A, A = sdW (fun i => ms (us i)) m := ⟨_, rfl⟩
            obtain ⟨HX, hHX⟩ : ∃ A, A = mostTo (fun i => ms (JS i)) (k + m) := ⟨_, rfl⟩
            obtain ⟨HA, hHA⟩ : ∃ A, A = mostTo (fun i => ms (ts i)) k := ⟨_, rfl⟩
            obtain ⟨HB, hHB⟩ : ∃ A, A = mostTo (fun i => ms (us i)) m := ⟨_, rfl⟩
            rw [← hMX] at e1
            rw [← hMA] at e2 g1
            rw [← hMB] at e3 g1
            rw [← hSA] at g2 g3
            rw [← hSB] at g4 g5
            rw [← hSX] at g12 g13
            rw [← hHX, ← hHA, ← hHB] at hmost
            have QA := hide (And.intro hMA (And.intro hSA hHA))
            have QB := hide (And.intro hMB (And.intro hSB hHB))
            have QX := hide (And.intro hMX (And.intro hSX hHX))
            clear hMX hMA hMB hSX hSA hSB hHX hHA hHB
            have HMOST := hide hmost
            have TEST1 := hide e8
            have TEST2 := hide g17
            have E1 := hide (And.intro e1 (And.intro e2 (And.intro e3 (And.intro e4 (And.intro e5 (And.intro e6 e7))))))
            have E2 := hide (And.intro g1 (And.intro g2 (And.intro g3 (And.intro g4 (And.intro g5 (And.intro g6 (And.intro g7 (And.intro g8 (And.intro g9 (And.intro g10 (And.intro g11 (And.intro g12 (And.intro g13 (And.intro g14 (And.intro g15 g16)))))))))))))))
            clear hmost e1 e2 e3 e4 e5 e6 e7 e8 g1 g2 g3 g4 g5 g6 g7 g8 g9 g10 g11 g12 g13 g14 g15 g16 g17
            go_wp2_with fail
            refine (dur_any x k ca ts wr (by omega) hac (unhide HXJ)).mono ?_
            rintro e w1 ⟨ga, rfl, hca, hba⟩
            have HCA := hide hca
            have HBA := hide hba
            clear hca hba
            go_wp2_with fail
            refine (zzsum_walk ⟨ga, 0, none⟩ k k ts (val BIG) w1 (unhide HWa) (unhide HF1) (unhide HCA)).mono ?_
            rintro e w2 ⟨rfl, rfl⟩
            rw [← (unhide QA).1, ← (unhide QA).2.1, ← (unhide QA).2.2]
            have HYJ1 := hide (row_kept (unhide HBA) (unhide HYJ))
            have HXJ1 := hide (row_kept (unhide HBA) (unhide HXJ))
            have HJ1 := hide (row_kept (unhide HBA) (unhide HJ0))
            clear HCA HYJ HXJ HJ0
            go_wp2_with fail
            refine (dur_any y m cb us w2 (by omega) hbc (unhide HYJ1)).mono ?_
            rintro e w3 ⟨gb, rfl, hcb, hbb⟩
            have HCB := hide hcb
            have HBB := hide hbb
            clear hcb hbb
            go_wp2_with fail
            refine (zzsum_walk ⟨gb, 0, none⟩ m m us (val BIG) w3 (unhide HWb) (unhide HF2) (unhide HCB)).mono ?_
            rintro e w4 ⟨rfl, rfl⟩
            rw [← (unhide QB).1, ← (unhide QB).2.1, ← (unhide QB).2.2]
            have HYJ2 := hide (row_kept (unhide HBB) (unhide HYJ1))
            have HXJ2 := hide (row_kept (unhide HBB) (unhide HXJ1))
            have HJ2 := hide (row_kept (unhide HBB) (unhide HJ1))
            clear HCB HYJ1 HXJ1 HJ1
            go_wp2_with fail
            refine (dur_any ⟨w0.heap.size, 0, none⟩ (k + m) (k + m) JS w4 (by omega) (Nat.le_refl _) (unhide HJ2)).mono ?_
            rintro e w5 ⟨gj, rfl, hcj, hbj⟩
            have HCJ := hide hcj
            have HBJ := hide hbj
            clear hcj hbj
            go_wp2_with fail
            refine (zzsum_walk ⟨gj, 0, none⟩ (k + m) (k + m) JS (val BIG) w5 (unhide HWj) (unhide HFJ) (unhide HCJ)).mono ?_
            rintro e w6 ⟨rfl, rfl⟩
            rw [← (unhide QX).1, ← (unhide QX).2.1, ← (unhide QX).2.2]
            have HYJ3 := hide (row_kept (unhide HBJ) (unhide HYJ2))
            have HXJ3 := hide (row_kept (unhide HBJ) (unhide HXJ2))
            have BEL := hide (next (next (next (unhide hbel) (unhide HBA) (Nat.le_refl _)) (unhide HBB) (Nat.le_refl _)) (unhide HBJ) (Nat.le_refl _))
            clear HCJ HYJ2 HXJ2 HJ2 hbel HBA HBB HBJ
            have hne : (FloatKind.f64.format.order HX (if FloatKind.f64.format.order HB HA == some .gt then HB else HA) != some .eq) = false := by
              change (Ieee.double.order HX (if Ieee.double.order HB HA == some .gt then HB else HA) != some .eq) = false
              rw [unhide HMOST]; rfl
            clear HMOST
            cases hg : (FloatKind.f64.format.order HB HA == some .gt)
            all_goals
              first
                | (have hne' : (FloatKind.f64.format.order HX HA != some .eq) = false := by rw [hg] at hne; exact hne
                   clear hne)
                | (have hne' : (FloatKind.f64.format.order HX HB != some .eq) = false := by rw [hg] at hne; exact hne
                   clear hne)
              go_wp2_with fail
              refine (most_walk x k ca ts (some y) m cb us w6 (by omega) (by omega) (unhide HXJ3) (fun i hi => ⟨y, rfl, unhide HYJ3 i hi⟩) (unhide HF1) (unhide HF2)).mono ?_
              rintro e w7 ⟨r, rfl, htop, rfl⟩
              have ho := top_join ts us k m r (unhide HF1) (unhide HF2) htop
              rw [← unhide HJS, ← (unhide QX).2.2] at ho
              have hne2 : (FloatKind.f64.format.order HX r != some .eq) = false := by
                change (Ieee.double.order _ _ != _) = _
                rw [ho]; rfl
              clear ho htop
              go_wp2_with fail
              refine (big_walk x k ca ts (some y) m cb us w7 (by omega) (by omega) (unhide HXJ3) (fun i hi => ⟨y, rfl, unhide HYJ3 i hi⟩) (unhide HF1) (unhide HF2)).mono ?_
              rintro e w8 ⟨rfl, rfl⟩
              rw [← unhide HBIG]
              obtain ⟨e1, e2, e3, e4, e5, e6, e7⟩ := unhide E1
              have f1 := fun ty w => run_mul e1 ty w
              have f2 := fun ty w => run_mul e2 ty w
              have f3 := fun ty w => run_mul e3 ty w
              have f4 := fun ty w => run_add e4 ty w
              have f5 := fun ty w => run_sub e5 ty w
              have f6 := fun ty w => run_mul e6 ty w
              have f7 : ∀ ty w, (binOp .mul ty (.float .f64 T) (.float .f64 4481081629233643520)).run Try.prog w = .ok (.float .f64 L1) w := fun ty w => run_mul e7 ty w
              have f8 : (FloatKind.f64.format.order (fabs D) L1 == some .gt) = false := unhide TEST1
              clear e1 e2 e3 e4 e5 e6 e7 E1 TEST1 hne2 hne' hg
              go_wp2_with fail
              refine (abs_walk _ _).mono ?_
              rintro e w9 ⟨rfl, rfl⟩
              obtain ⟨g1, g2, g3, g4, g5, g6, g7, g8, g9, g10, g11, g12, g13, g14, g15, g16⟩ := unhide E2
              have q1 := fun ty w => run_sub g1 ty w
              have q2 := fun ty w => run_mul g2 ty w
              have q3 := fun ty w => run_mul g3 ty w
              have q4 := fun ty w => run_mul g4 ty w
              have q5 := fun ty w => run_mul g5 ty w
              have q6 := fun ty w => run_add g6 ty w
              have q7 := fun ty w => run_mul g7 ty w
              have q8 := fun ty w => run_div g8 ty w
              have q9 := fun ty w => run_mul g9 ty w
              have q10 := fun ty w => run_mul g10 ty w
              have q11 := fun ty w => run_add g11 ty w
              have q12 := fun ty w => run_mul g12 ty w
              have q13 := fun ty w => run_mul g13 ty w
              have q14 := fun ty w => run_sub g14 ty w
              have q15 := fun ty w => run_mul g15 ty w
              have q16 : ∀ ty w, (binOp .mul ty (.float .f64 U) (.float .f64 4499096027743125504)).run Try.prog w = .ok (.float .f64 L2) w := fun ty w => run_mul g16 ty w
              have q17 : (FloatKind.f64.format.order (fabs DD) L2 == some .lt || FloatKind.f64.format.order (fabs DD) L2 == some .eq) = true := unhide TEST2
              clear g1 g2 g3 g4 g5 g6 g7 g8 g9 g10 g11 g12 g13 g14 g15 g16 E2 TEST2 f1 f2 f3 f4 f5
              go_wp2_with fail
              refine (abs_walk _ _).mono ?_
              rintro e w10 ⟨rfl, rfl⟩
              go_wp2
              go_ret
              exact ⟨by first | rfl | (show Ending.returned (Value.bool _) = _; rw [q17]), unhide BEL⟩
end Go.Proofs.Qxb6608579a
