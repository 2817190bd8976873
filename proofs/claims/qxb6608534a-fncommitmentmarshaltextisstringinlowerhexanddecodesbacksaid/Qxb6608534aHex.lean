import Derived.Test.Qxb6608534aPlain
import Derived.WalkKit
import Derived.WalkSpells
import Derived.WalkLawsBesides
import Derived.Outline
import Derived.Laws.Rows
import Derived.Laws.Tables
import Derived.Laws.BytesArg
import Derived.Deep.WholeRow
import Derived.Below
import Derived.Deep.MidRow
import Derived.Deep.RegionHeld3
namespace Go.Proofs.Qxb6608534a
open Go.RowKit Go.Lib

set_option maxHeartbeats 400000 in
theorem dig_lo (c : Int) (w : World) (h0 : 48 ≤ c) (h1 : c ≤ 57) :
    Calls Try.prog 7 #[.int .u8 c] w fun e w' => e = .returned (.tuple #[.int .u8 (c - 48), .bool true]) ∧ w' = w := by
  go_enter Try.func7, Try.ntmps7
  go_wp2
  go_ret2
  exact ⟨rfl, rfl⟩

set_option maxHeartbeats 400000 in
theorem dig_hi (c : Int) (w : World) (h0 : 97 ≤ c) (h1 : c ≤ 102) :
    Calls Try.prog 7 #[.int .u8 c] w fun e w' => e = .returned (.tuple #[.int .u8 (c - 97 + 10), .bool true]) ∧ w' = w := by
  have h2 : ¬ c ≤ 57 := by omega
  have h3 : 48 ≤ c := by omega
  go_enter Try.func7, Try.ntmps7
  go_wp2
  go_ret2
  exact ⟨rfl, rfl⟩

theorem digit_low : ∀ a : Fin 16, a.val < 10 → (Hx.digit a.val).toNat = 48 + a.val := by decide
theorem digit_high : ∀ a : Fin 16, 10 ≤ a.val → (Hx.digit a.val).toNat = 87 + a.val := by decide

/-- zzLowerHexDigit reads a digit back. -/
theorem dig_any (d : Nat) (hd : d < 16) (w : World) :
    Calls Try.prog 7 #[.int .u8 ((Hx.digit d).toNat : Int)] w fun e w' => e = .returned (.tuple #[.int .u8 (d : Int), .bool true]) ∧ w' = w := by
  by_cases h : d < 10
  · have e := digit_low ⟨d, hd⟩ h
    simp only at e
    have := dig_lo ((Hx.digit d).toNat : Int) w (by omega) (by omega)
    rwa [show ((Hx.digit d).toNat : Int) - 48 = d by omega] at this
  · have e := digit_high ⟨d, hd⟩ (by simp only; omega)
    simp only at e
    have := dig_hi ((Hx.digit d).toNat : Int) w (by omega) (by omega)
    rwa [show ((Hx.digit d).toNat : Int) - 97 + 10 = d by omega] at this

theorem IsArr.one {l : List UInt8} {cs : Array Value} (h : IsArr l cs) : cs.all (·.oneCell') = true := by
  refine Array.all_eq_true.2 fun i hi => ?_
  have e := h.at_ i (by have := h.len; have := h.size; omega)
  rw [Array.getElem?_eq_getElem hi] at e
  rw [Option.some.inj e]
  rfl

theorem or_back : ∀ b : Fin 256, (bits BinOp.or IntKind.u8 ((b.val : Int) / 16 * 16) ((b.val : Int) % 16) != (b.val : Int)) = false := by decide +kernel

set_option linter.unusedSimpArgs false in
set_option maxHeartbeats 1000000 in
theorem marsh_any (l : List UInt8) (cs : Array Value) (w : World) (h : IsArr l cs) :
    Calls Try.prog 3 #[.agg cs] w fun e w' => e = .returned (.bool true) ∧ Below w.heap.size w w' := by
  have hi : (Try.prog.info? 22).map (·.size) = some cs.size := by rw [h.size]; kernel_rfl
  have ki : (Try.prog.info? 23).map (·.size) = some cs.size := by rw [h.size]; kernel_rfl
  have hset : Hid (∀ Z : Array Value, ((w.alloc (.cells cs 22)).alloc (.cells Z 23)).setRow (w.heap.size + 1) cs = (w.alloc (.cells cs 22)).alloc (.cells cs 23)) := fun Z => by
    have := World.setRow_alloc_new (w.alloc (.cells cs 22)) Z cs 23
    simpa using this
  have H1 := hide h.one
  go_enter Try.func3, Try.ntmps3
  go_wp2_with (first
    | (refine wpList_load_row rfl 22 _ rfl w.heap.size rfl 22 cs (0, 0) _ (heap_alloc_new w _) Try.underlying22 rfl hi ?_)
    | (refine wpList_store_row rfl 23 _ _ rfl (w.heap.size + 1) cs rfl rfl 23 _ (heap_alloc2_new w _ _) ki (by rw [h.size]; rfl) (unhide H1) ?_; rw [unhide hset])
    | (refine wpList_load_row rfl 23 _ rfl (w.heap.size + 1) rfl 23 cs (0, 0) _ (heap_alloc2_new w _ _) Try.underlying23 rfl ki ?_))
  refine (marshal_any l cs _ h).mono ?_
  rintro e w1 ⟨g1, c1, rfl, hg1, hg1', hc1, hb1⟩
  simp at hg1
  have hz1 := hb1.size
  simp at hz1
  have hd1 : w1.rangeAt (w.heap.size + 1) 0 cs.toList := fun j v hv => by
    rw [Nat.zero_add, cell_of_row w1 _ j cs 23 (0, 0) ((hb1.block _ (by simp)).trans (heap_alloc2_new w _ _))]; simpa using hv
  have hr1 : ∀ i (hi : i < l.length), w1.cell? ⟨w.heap.size, i, none⟩ = some (.int .u8 ((l[i]'hi).toNat : Int)) := fun i hi => by
    rw [cell_of_row w1 _ i cs 22 (0, 0) ((hb1.block _ (by simp; omega)).trans (heap_alloc2_old w _ _))]; exact h.at_ i hi
  have HC1 := hide hc1
  have HB1 := hide hb1
  have HR1 := hide hr1
  have HD1 := hide hd1
  clear hc1 hb1 hr1 hd1 hset H1
  have rS : Hid (∀ W, Below w1.heap.size w1 W → W.rangeAt (w.heap.size + 1) 0 cs.toList) := fun W hW j v hv => by
    rw [hW.cell (p := ⟨w.heap.size + 1, 0 + j, none⟩) (show w.heap.size + 1 < _ by omega)]; exact unhide HD1 j v hv
  have hconv : Hid (∀ W, Below w1.heap.size w1 W → (convert 24 9 (.slice (some ⟨g1, 0, none⟩) 64 c1)).run Try.prog W = .ok (.string ⟨(Hx.encode l).toArray⟩) W) := fun W hW => by
    rw [run_convert_bytes_arg (P := Try.prog) W 24 5 Try.underlying24 Try.underlying5 g1 0 64 c1 (Hx.nums l) (by rw [Hx.nums_length, h.len]) (fun i hi => by
      rw [hW.cell (p := ⟨g1, 0 + i, none⟩) hg1', Nat.zero_add, unhide HC1 i hi, Hx.nums_getD]) 9 Try.underlying9, Hx.strOfNums_nums]
  go_wp2
  have ki' : (Try.prog.info? 23).map (·.size) = some cs.toList.length := by rw [Array.length_toList]; exact ki
  refine wp_region_held_drew (S := fun W => Below w1.heap.size w1 W) (by kernel_rfl) ((Below.refl _ _).drew) (fun hHeld => ?_)
  refine wpAnyH_take (i := 0) (v := .slice (some ⟨g1, 0, none⟩) 64 c1) rfl (by kernel_rfl) (by kernel_rfl) (by kernel_rfl) (fun _ _ _ h => h) (Or.inl ⟨by rfl, fun _ _ => by rfl⟩) hHeld ?_
  refine wpAnyH_take (i := 1) (v := .string ⟨(Hx.encode l).toArray⟩) rfl (by kernel_rfl) (by kernel_rfl) (by kernel_rfl) (fun _ _ _ h => h) (Or.inl ⟨by rfl, fun W hW => ?_⟩) hHeld ?_
  · have e := unhide hconv W hW
    go_simp
  refine wpAnyH_take (i := 2) (v := .agg cs.toList.toArray) rfl (by kernel_rfl) (by kernel_rfl) (by kernel_rfl) (fun _ _ _ h => h) (yieldsIf_load_mid (by rfl) 23 _ rfl (w.heap.size + 1) 0 rfl cs.toList _ (unhide rS) Try.underlying23 rfl ki') hHeld ?_
  simp only [Act.put, List.setIfInBounds_toArray, List.set_cons_zero, List.set_cons_succ]
  refine wpAnyH_ready (rs := [3]) (by kernel_rfl) (by simp) ?_
  refine AllReadyH.cons rfl (fun K hK => ?_) AllReadyH.nil
  go_simp
  refine (string_any l cs _ h).mono ?_
  rintro e w2 ⟨rfl, hb2⟩
  have hb3 : Below w1.heap.size w1 w2 := ((Below.refl _ w1).drew).trans (hb2.mono (by simp))
  refine hK.out _ _ hb3 (fun hHeld => ?_)
  clear hK K
  refine wpAnyH_ready (rs := [4]) (by kernel_rfl) (by simp) ?_
  refine AllReadyH.cons rfl (fun K hK => ?_) AllReadyH.nil
  go_simp
  refine hK.out _ _ hb3 (fun hHeld => ?_)
  clear hK K
  refine wpAnyH_done (by kernel_rfl) ?_ _
  have ht : Hid (∀ i (hi : i < l.length), w2.cell? ⟨g1, 2 * i, none⟩ = some (.int .u8 ((Hx.digit ((l[i]'hi).toNat / 16)).toNat : Int)) ∧ w2.cell? ⟨g1, 2 * i + 1, none⟩ = some (.int .u8 ((Hx.digit ((l[i]'hi).toNat % 16)).toNat : Int))) := fun i hi => by
    have hl := h.len
    obtain ⟨e1, e2⟩ := Hx.encode_at l i (l[i]'hi) (List.getElem?_eq_getElem hi)
    rw [hb3.cell (p := ⟨g1, 2 * i, none⟩) hg1', hb3.cell (p := ⟨g1, 2 * i + 1, none⟩) hg1', unhide HC1 _ (by omega), unhide HC1 _ (by omega), e1, e2]
    exact ⟨rfl, rfl⟩
  have hr : Hid (∀ i (hi : i < l.length), w2.cell? ⟨w.heap.size, i, none⟩ = some (.int .u8 ((l[i]'hi).toNat : Int))) := fun i hi => by
    rw [hb3.cell (p := ⟨w.heap.size, i, none⟩) (show w.heap.size < _ by omega)]; exact unhide HR1 i hi
  have HB3 := hide hb3
  clear hb3 hb2 hHeld HC1 HR1 HD1 hconv rS hi ki ki'
  go_wp2
  go_loop [6] (fun vi => ∃ k : Nat, k ≤ 32 ∧ vi = .int .i64 k) (fun vi => 32 - (RowKit.intOf vi).toNat)
  case atStart => exact ⟨0, by omega, rfl⟩
  case round =>
    obtain ⟨k, hk, rfl⟩ := hrel
    by_cases hlt : k < 32
    · have hll : k < l.length := by rw [h.len]; exact hlt
      obtain ⟨t1, t2⟩ := unhide ht k hll
      have t3 := unhide hr k hll
      have hbl := (l[k]'hll).toNat_lt
      generalize (l[k]'hll).toNat = b at t1 t2 t3 hbl
      have hor : (bits BinOp.or IntKind.u8 ((b : Int) / 16 * 16) ((b : Int) % 16) != (b : Int)) = false := or_back ⟨b, hbl⟩
      go_wp2_with fail
      refine (dig_any (b / 16) (by omega) _).mono ?_
      rintro e w3 ⟨rfl, rfl⟩
      go_wp2_with fail
      refine (dig_any (b % 16) (by omega) _).mono ?_
      rintro e w4 ⟨rfl, rfl⟩
      go_wp2
      go_round
      case rel => exact ⟨k + 1, by omega, by go_num⟩
      case measure => simp [RowKit.intOf]; omega
    · have hk2 : k = 32 := by omega
      subst hk2
      go_wp2
      go_ret
      have b1 := ((Below.refl w.heap.size w).alloc (Nat.le_refl _) (.cells cs 22)).alloc (by simp) (.cells cs 23)
      exact ⟨rfl, (b1.trans ((unhide HB1).mono (by simp; omega))).trans ((unhide HB3).mono (by omega))⟩
end Go.Proofs.Qxb6608534a
