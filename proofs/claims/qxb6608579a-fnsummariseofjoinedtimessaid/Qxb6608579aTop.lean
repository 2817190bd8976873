/- zzb1MostMs and zzb1BigMs. -/
import Derived.Test.Qxb6608579aRow
namespace Go.Proofs.Qxb6608579a
open Go.RowKit

/-- The greatest so far, by whole numbers. -/
def Best (ts : Nat → Int) (k : Nat) (us : Nat → Int) (m : Nat) (f : Bool) (t : Int) : Prop :=
  (f = false ∧ k = 0 ∧ m = 0) ∨ (f = true ∧ (∀ i, i < k → ts i ≤ t) ∧ (∀ i, i < m → us i ≤ t) ∧ ((∃ i, i < k ∧ t = ts i) ∨ ∃ i, i < m ∧ t = us i))

theorem Best.first (ts us : Nat → Int) : Best ts 0 us 0 false 0 := .inl ⟨rfl, rfl, rfl⟩

theorem Best.new1 {ts us : Nat → Int} {k : Nat} {f : Bool} {t : Int} (h : Best ts k us 0 f t) (hn : f = false ∨ t < ts k) : Best ts (k + 1) us 0 true (ts k) := by
  refine .inr ⟨rfl, fun i hi => ?_, fun i hi => absurd hi (Nat.not_lt_zero _), .inl ⟨k, by omega, rfl⟩⟩
  by_cases e : i = k
  · rw [e]; exact Int.le_refl _
  · rcases h with ⟨_, hk, _⟩ | ⟨hf, h1, _, _⟩
    · omega
    · rcases hn with hn | hn
      · rw [hf] at hn; cases hn
      · have := h1 i (by omega); omega

theorem Best.old1 {ts us : Nat → Int} {k : Nat} {t : Int} (h : Best ts k us 0 true t) (hn : ¬ t < ts k) : Best ts (k + 1) us 0 true t := by
  rcases h with ⟨hf, _, _⟩ | ⟨hf, h1, h2, h3⟩
  · cases hf
  · refine .inr ⟨rfl, fun i hi => ?_, h2, ?_⟩
    · by_cases e : i = k
      · rw [e]; omega
      · exact h1 i (by omega)
    · rcases h3 with ⟨i, hi, e⟩ | ⟨i, hi, e⟩
      · exact .inl ⟨i, by omega, e⟩
      · exact .inr ⟨i, hi, e⟩

theorem Best.new2 {ts us : Nat → Int} {n k : Nat} {f : Bool} {t : Int} (h : Best ts n us k f t) (hn : f = false ∨ t < us k) : Best ts n us (k + 1) true (us k) := by
  rcases h with ⟨_, hk, hm⟩ | ⟨hf, h1, h2, _⟩
  · refine .inr ⟨rfl, fun i hi => by omega, fun i hi => ?_, .inr ⟨k, by omega, rfl⟩⟩
    have : i = k := by omega
    rw [this]; exact Int.le_refl _
  · rcases hn with hn | hn
    · rw [hf] at hn; cases hn
    · refine .inr ⟨rfl, fun i hi => ?_, fun i hi => ?_, .inr ⟨k, by omega, rfl⟩⟩
      · have := h1 i hi; omega
      · by_cases e : i = k
        · rw [e]; exact Int.le_refl _
        · have := h2 i (by omega); omega

theorem Best.old2 {ts us : Nat → Int} {n k : Nat} {t : Int} (h : Best ts n us k true t) (hn : ¬ t < us k) : Best ts n us (k + 1) true t := by
  rcases h with ⟨hf, _, _⟩ | ⟨hf, h1, h2, h3⟩
  · cases hf
  · refine .inr ⟨rfl, h1, fun i hi => ?_, ?_⟩
    · by_cases e : i = k
      · rw [e]; omega
      · exact h2 i (by omega)
    · rcases h3 with ⟨i, hi, e⟩ | ⟨i, hi, e⟩
      · exact .inl ⟨i, hi, e⟩
      · exact .inr ⟨i, by omega, e⟩

theorem Best.fits {ts us : Nat → Int} {n m : Nat} {t : Int} (h : Best ts n us m true t) (h1 : ∀ i, i < n → Fits (ts i)) (h2 : ∀ i, i < m → Fits (us i)) : Fits t := by
  rcases h with ⟨hf, _, _⟩ | ⟨_, _, _, ⟨i, hi, rfl⟩ | ⟨i, hi, rfl⟩⟩
  · cases hf
  · exact h1 i hi
  · exact h2 i hi

/-- What zzb1MostMs gives. -/
def IsTop (ts : Nat → Int) (n : Nat) (us : Nat → Int) (m : Nat) (r : Nat) : Prop :=
  ∃ f t, Best ts n us m f t ∧ ((r = 0 ∧ (f = false ∨ t ≤ 0)) ∨ (r = ms t ∧ f = true ∧ 0 < t))

set_option maxHeartbeats 2000000 in
/-- (8) zzb1MostMs -/
theorem most_walk (x : Addr) (na ca : Nat) (ts : Nat → Int) (bo : Option Addr) (nb cb : Nat) (us : Nat → Int) (w : World) (hna : na ≤ 131072) (hnb : nb ≤ 131072)
    (hcell : ∀ i, i < na → w.cell? (x.add i) = some (.int .i64 (ts i))) (hcell2 : ∀ i, i < nb → ∃ y, bo = some y ∧ w.cell? (y.add i) = some (.int .i64 (us i)))
    (hf1 : ∀ i, i < na → Fits (ts i)) (hf2 : ∀ i, i < nb → Fits (us i)) :
    Calls Try.prog 8 #[.slice (some x) na ca, .slice bo nb cb] w fun e w' => ∃ r, e = .returned (.float .f64 r) ∧ IsTop ts na us nb r ∧ w' = w := by
  have HC := hide hcell
  have HD := hide hcell2
  have HF1 := hide hf1
  have HF2 := hide hf2
  clear hcell hcell2 hf1 hf2
  go_enter Try.func8, Try.ntmps8
  go_wp2
  go_loop [5, 6, 7] (fun t5 t6 t7 => ∃ k : Nat, k ≤ na ∧ t7 = .int .i64 k ∧ ∃ f t, t5 = .bool f ∧ t6 = .int .i64 t ∧ Hid (Best ts k us 0 f t)) (fun _ _ t => na - (intOf t).toNat)
  case atStart => exact ⟨0, by omega, rfl, false, 0, rfl, rfl, Best.first ts us⟩
  case round =>
    obtain ⟨k, hk, rfl, f, t, rfl, rfl, hB⟩ := hrel
    by_cases hlt : k < na
    · have h1 := unhide HC k hlt
      cases f with
      | false =>
        go_wp2
        go_round
        case rel => exact ⟨k + 1, by omega, by go_num, true, _, rfl, rfl, (unhide hB).new1 (.inl rfl)⟩
        case measure => simp [intOf]; omega
      | true =>
        by_cases hg : t < ts k
        · go_wp2
          go_round
          case rel => exact ⟨k + 1, by omega, by go_num, true, _, rfl, rfl, (unhide hB).new1 (.inr hg)⟩
          case measure => simp [intOf]; omega
        · go_wp2
          go_round
          case rel => exact ⟨k + 1, by omega, by go_num, true, _, rfl, rfl, (unhide hB).old1 hg⟩
          case measure => simp [intOf]; omega
    · obtain rfl : k = na := by omega
      go_wp2
      go_loop [5, 6, 8] (fun t5 t6 t7 => ∃ m : Nat, m ≤ nb ∧ t7 = .int .i64 m ∧ ∃ f t, t5 = .bool f ∧ t6 = .int .i64 t ∧ Hid (Best ts k us m f t)) (fun _ _ t => nb - (intOf t).toNat)
      case atStart => exact ⟨0, by omega, rfl, f, t, rfl, rfl, hB⟩
      case round =>
        clear hB
        obtain ⟨m, hm, rfl, f, t, rfl, rfl, hB⟩ := hrel
        by_cases hlt2 : m < nb
        · obtain ⟨y, rfl, h1⟩ := unhide HD m hlt2
          cases f with
          | false =>
            go_wp2
            go_round
            case rel => exact ⟨m + 1, by omega, by go_num, true, _, rfl, rfl, (unhide hB).new2 (.inl rfl)⟩
            case measure => simp [intOf]; omega
          | true =>
            by_cases hg : t < us m
            · go_wp2
              go_round
              case rel => exact ⟨m + 1, by omega, by go_num, true, _, rfl, rfl, (unhide hB).new2 (.inr hg)⟩
              case measure => simp [intOf]; omega
            · go_wp2
              go_round
              case rel => exact ⟨m + 1, by omega, by go_num, true, _, rfl, rfl, (unhide hB).old2 hg⟩
              case measure => simp [intOf]; omega
        · obtain rfl : m = nb := by omega
          cases f with
          | false =>
            go_wp2
            go_ret
            exact ⟨0, rfl, ⟨false, t, unhide hB, .inl ⟨rfl, .inl rfl⟩⟩, rfl⟩
          | true =>
            by_cases h0 : t ≤ 0
            · go_wp2
              go_ret
              exact ⟨0, rfl, ⟨true, t, unhide hB, .inl ⟨rfl, .inr h0⟩⟩, rfl⟩
            · have hd : ∀ ty w, (binOp .quo ty (.float .f64 (floatOfInt .f64 t)) (.float .f64 4696837146684686336)).run Try.prog w = .ok (.float .f64 (ms t)) w :=
                fun ty w => run_div (ms_near t ((unhide hB).fits (unhide HF1) (unhide HF2)).abs).1 ty w
              go_wp2
              go_ret
              exact ⟨ms t, rfl, ⟨true, t, unhide hB, .inr ⟨rfl, rfl, by omega⟩⟩, rfl⟩

set_option maxHeartbeats 2000000 in
/-- (9) zzb1BigMs -/
theorem big_walk (x : Addr) (na ca : Nat) (ts : Nat → Int) (bo : Option Addr) (nb cb : Nat) (us : Nat → Int) (w : World) (hna : na ≤ 131072) (hnb : nb ≤ 131072)
    (hcell : ∀ i, i < na → w.cell? (x.add i) = some (.int .i64 (ts i))) (hcell2 : ∀ i, i < nb → ∃ y, bo = some y ∧ w.cell? (y.add i) = some (.int .i64 (us i)))
    (hf1 : ∀ i, i < na → Fits (ts i)) (hf2 : ∀ i, i < nb → Fits (us i)) :
    Calls Try.prog 9 #[.slice (some x) na ca, .slice bo nb cb] w fun e w' => e = .returned (.float .f64 (bigTo (bigTo 0 (fun i => ms (ts i)) na) (fun i => ms (us i)) nb)) ∧ w' = w := by
  have HC := hide hcell
  have HD := hide hcell2
  have HF1 := hide hf1
  have HF2 := hide hf2
  clear hcell hcell2 hf1 hf2
  go_enter Try.func9, Try.ntmps9
  go_wp2
  go_loop [5, 6] (fun t5 t6 => ∃ k : Nat, k ≤ na ∧ t6 = .int .i64 k ∧ t5 = .float .f64 (bigTo 0 (fun i => ms (ts i)) k)) (fun _ t => na - (intOf t).toNat)
  case atStart => exact ⟨0, by omega, rfl, rfl⟩
  case round =>
    obtain ⟨k, hk, rfl, rfl⟩ := hrel
    by_cases hlt : k < na
    · have h1 := unhide HC k hlt
      have hd : ∀ ty w, (binOp .quo ty (.float .f64 (floatOfInt .f64 (ts k))) (.float .f64 4696837146684686336)).run Try.prog w = .ok (.float .f64 (ms (ts k))) w :=
        fun ty w => run_div (ms_near (ts k) (unhide HF1 k hlt).abs).1 ty w
      obtain ⟨B, hB⟩ : ∃ B, B = bigTo 0 (fun i => ms (ts i)) k := ⟨_, rfl⟩
      have hS : bigTo 0 (fun i => ms (ts i)) (k + 1) = bigStep B (ms (ts k)) := by rw [hB]; rfl
      rw [← hB]
      clear hB
      go_wp2_with fail
      refine (abs_walk _ _).mono ?_
      rintro e w1 ⟨rfl, rfl⟩
      cases hg : (FloatKind.f64.format.order (fabs (ms (ts k))) B == some .gt) with
      | true =>
        have hg' : (Ieee.double.order (fabs (ms (ts k))) B == some .gt) = true := hg
        go_wp2
        go_round
        case rel => exact ⟨k + 1, by omega, by go_num, by rw [hS, bigStep, hg', if_pos rfl]⟩
        case measure => simp [intOf]; omega
      | false =>
        have hg' : (Ieee.double.order (fabs (ms (ts k))) B == some .gt) = false := hg
        go_wp2
        go_round
        case rel => exact ⟨k + 1, by omega, by go_num, by rw [hS, bigStep, hg', if_neg (by simp)]⟩
        case measure => simp [intOf]; omega
    · obtain rfl : k = na := by omega
      obtain ⟨S, hS0⟩ : ∃ S, S = bigTo 0 (fun i => ms (ts i)) k := ⟨_, rfl⟩
      rw [← hS0]
      have HS0 := hide hS0
      clear hS0
      go_wp2
      go_loop [5, 8] (fun t5 t6 => ∃ k : Nat, k ≤ nb ∧ t6 = .int .i64 k ∧ t5 = .float .f64 (bigTo S (fun i => ms (us i)) k)) (fun _ t => nb - (intOf t).toNat)
      case atStart => exact ⟨0, by omega, rfl, rfl⟩
      case round =>
        obtain ⟨m, hm, rfl, rfl⟩ := hrel
        by_cases hlt2 : m < nb
        · obtain ⟨y, rfl, h1⟩ := unhide HD m hlt2
          have hd : ∀ ty w, (binOp .quo ty (.float .f64 (floatOfInt .f64 (us m))) (.float .f64 4696837146684686336)).run Try.prog w = .ok (.float .f64 (ms (us m))) w :=
            fun ty w => run_div (ms_near (us m) (unhide HF2 m hlt2).abs).1 ty w
          obtain ⟨B, hB⟩ : ∃ B, B = bigTo S (fun i => ms (us i)) m := ⟨_, rfl⟩
          have hS : bigTo S (fun i => ms (us i)) (m + 1) = bigStep B (ms (us m)) := by rw [hB]; rfl
          rw [← hB]
          clear hB
          go_wp2_with fail
          refine (abs_walk _ _).mono ?_
          rintro e w1 ⟨rfl, rfl⟩
          cases hg : (FloatKind.f64.format.order (fabs (ms (us m))) B == some .gt) with
          | true =>
            have hg' : (Ieee.double.order (fabs (ms (us m))) B == some .gt) = true := hg
            go_wp2
            go_round
            case rel => exact ⟨m + 1, by omega, by go_num, by rw [hS, bigStep, hg', if_pos rfl]⟩
            case measure => simp [intOf]; omega
          | false =>
            have hg' : (Ieee.double.order (fabs (ms (us m))) B == some .gt) = false := hg
            go_wp2
            go_round
            case rel => exact ⟨m + 1, by omega, by go_num, by rw [hS, bigStep, hg', if_neg (by simp)]⟩
            case measure => simp [intOf]; omega
        · obtain rfl : m = nb := by omega
          go_wp2
          go_ret
          exact ⟨by rw [← unhide HS0]; rfl, rfl⟩
end Go.Proofs.Qxb6608579a
