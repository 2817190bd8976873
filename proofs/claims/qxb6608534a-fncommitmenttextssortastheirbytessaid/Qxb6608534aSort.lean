import Derived.Test.Qxb6608534aPlain
import Derived.WalkKit
import Derived.WalkSpells
import Derived.WalkLawsBesides
import Derived.Outline
import Derived.Deep.QuietTactic
import Derived.BigQuiet
import Derived.Below
import Derived.Deep.RegionHeld3
import Derived.Deep.MidRow
namespace Go.Proofs.Qxb6608534a
open Go.RowKit Go.Lib

/-- A block that was there is there behind a 'Below'. -/
theorem block_kept {B : Nat} {w w' : World} (h : Below B w w') {b : Nat} {o : Obj} (hb : b < B) (ho : w.heap[b]? = some o) : w'.heap[b]? = some o := (h.block b hb).trans ho

set_option linter.unusedSimpArgs false in
set_option maxHeartbeats 1000000 in
theorem sort_any (l m : List UInt8) (cs ds : Array Value) (w : World) (h : IsArr l cs) (k : IsArr m ds) :
    Calls Try.prog 4 #[.agg cs, .agg ds] w fun e w' => ∃ r1 r2, IsCmp 64 (nth (Hx.encode l)) (nth (Hx.encode m)) r1 ∧ IsCmp 32 (nth l) (nth m) r2 ∧ e = .returned (.bool (r1 == r2)) ∧ Below w.heap.size w w' := by
  have hi : (Try.prog.info? 22).map (·.size) = some cs.size := by rw [h.size]; kernel_rfl
  have ki : (Try.prog.info? 22).map (·.size) = some ds.size := by rw [k.size]; kernel_rfl
  go_enter Try.func4, Try.ntmps4
  go_wp2_with (first | (refine wpList_load_row rfl 22 _ rfl w.heap.size rfl 22 cs (0, 0) _ (heap_alloc2_old w _ _) Try.underlying22 rfl hi ?_) )
  refine (marshal_any l cs _ h).mono ?_
  rintro e w1 ⟨g1, c1, rfl, hg1, hg1', hc1, hb1⟩
  simp at hg1
  have hz1 := hb1.size
  simp at hz1
  have hd1 := block_kept hb1 (by simp) (heap_alloc2_new w (.cells cs 22) (.cells ds 22))
  have hr1 := block_kept hb1 (by simp; omega) (heap_alloc2_old w (.cells cs 22) (.cells ds 22))
  have HC1 := hide hc1
  have HB1 := hide hb1
  have HR1 := hide hr1
  clear hc1 hb1 hr1
  go_wp2_with (first | (refine wpList_load_row rfl 22 _ rfl (w.heap.size + 1) rfl 22 ds (0, 0) _ hd1 Try.underlying22 rfl ki ?_) )
  refine (marshal_any m ds _ k).mono ?_
  rintro e w2 ⟨g2, c2, rfl, hg2, hg2', hc2, hb2⟩
  have hz2 := hb2.size
  have B2 := hide (fun b => @Below.block _ _ _ hb2 b)
  have HC2 := hide hc2
  have hc1 : ∀ i, i < 64 → w2.cell? ⟨g1, i, none⟩ = some (.int .u8 (nth (Hx.encode l) i)) := fun i hi => by
    rw [hb2.cell (p := ⟨g1, i, none⟩) hg1']; exact unhide HC1 i hi
  have hd2 : w2.rangeAt (w.heap.size + 1) 0 ds.toList := fun j v hv => by
    rw [Nat.zero_add, cell_of_row w2 _ j ds 22 (0, 0) (block_kept hb2 (by omega) hd1)]; simpa using hv
  have hr2 : w2.rangeAt w.heap.size 0 cs.toList := fun j v hv => by
    rw [Nat.zero_add, cell_of_row w2 _ j cs 22 (0, 0) (block_kept hb2 (by omega) (unhide HR1))]; simpa using hv
  have HB2 := hide hb2
  clear hb2 hc2
  have rS : Hid (∀ W, Below w2.heap.size w2 W → W.rangeAt w.heap.size 0 cs.toList) := fun W hW j v hv => by
    rw [hW.cell (p := ⟨w.heap.size, 0 + j, none⟩) (show w.heap.size < _ by omega)]; exact hr2 j v hv
  have rT : Hid (∀ W, Below w2.heap.size w2 W → W.rangeAt (w.heap.size + 1) 0 ds.toList) := fun W hW j v hv => by
    rw [hW.cell (p := ⟨w.heap.size + 1, 0 + j, none⟩) (show w.heap.size + 1 < _ by omega)]; exact hd2 j v hv
  have HC1' := hide hc1
  clear hr2 hd2 hc1 hd1 HR1 HC1
  go_wp2
  have hi' : (Try.prog.info? 22).map (·.size) = some cs.toList.length := by rw [Array.length_toList]; exact hi
  have ki' : (Try.prog.info? 22).map (·.size) = some ds.toList.length := by rw [Array.length_toList]; exact ki
  refine wp_region_held_drew (S := fun W => Below w2.heap.size w2 W) (by kernel_rfl) ((Below.refl _ _).drew) (fun hHeld => ?_)
  refine wpAnyH_take (i := 0) (v := .slice (some ⟨g1, 0, none⟩) 64 c1) rfl (by kernel_rfl) (by kernel_rfl) (by kernel_rfl) (fun _ _ _ h => h) (Or.inl ⟨by rfl, fun _ _ => by rfl⟩) hHeld ?_
  refine wpAnyH_take (i := 1) (v := .slice (some ⟨g2, 0, none⟩) 64 c2) rfl (by kernel_rfl) (by kernel_rfl) (by kernel_rfl) (fun _ _ _ h => h) (Or.inl ⟨by rfl, fun _ _ => by rfl⟩) hHeld ?_
  refine wpAnyH_take (i := 3) (v := .agg cs.toList.toArray) rfl (by kernel_rfl) (by kernel_rfl) (by kernel_rfl) (fun _ _ _ h => h) (yieldsIf_load_mid (by rfl) 22 _ rfl w.heap.size 0 rfl cs.toList _ (unhide rS) Try.underlying22 rfl hi') hHeld ?_
  refine wpAnyH_take (i := 4) (v := .agg ds.toList.toArray) rfl (by kernel_rfl) (by kernel_rfl) (by kernel_rfl) (fun _ _ _ h => h) (yieldsIf_load_mid (by rfl) 22 _ rfl (w.heap.size + 1) 0 rfl ds.toList _ (unhide rT) Try.underlying22 rfl ki') hHeld ?_
  simp only [Act.put, List.setIfInBounds_toArray, List.set_cons_zero, List.set_cons_succ]
  refine wpAnyH_ready (rs := [2]) (by kernel_rfl) (by simp) ?_
  refine AllReadyH.cons rfl (fun K hK => ?_) AllReadyH.nil
  go_simp
  refine (cmp_any (nth (Hx.encode l)) (nth (Hx.encode m)) g1 g2 c1 c2 w2.drew (unhide HC1') (unhide HC2)).mono ?_
  rintro e w3 ⟨r1, hr1, rfl, q3, hq3⟩
  have hb3 : Below w2.heap.size w2 w3 := by rw [hq3]; exact (Below.refl _ w2).trans ⟨rfl, rfl, rfl, Nat.le_refl _, fun _ _ => rfl⟩
  clear hq3
  refine hK.out _ _ hb3 (fun hHeld => ?_)
  clear hK K
  refine wpAnyH_ready (rs := [5]) (by kernel_rfl) (by simp) ?_
  refine AllReadyH.cons rfl (fun K hK => ?_) AllReadyH.nil
  have HR1 := hide hr1
  clear hr1
  go_simp
  refine (cmp32_any (nth l) (nth m) cs ds w3 h.size k.size ?_ ?_).mono ?_
  · intro i hi; rw [h.at_ i (by have := h.len; omega)]; simp [nth]; rw [List.getElem?_eq_getElem (by have := h.len; omega)]; rfl
  · intro i hi; rw [k.at_ i (by have := k.len; omega)]; simp [nth]; rw [List.getElem?_eq_getElem (by have := k.len; omega)]; rfl
  rintro e w4 ⟨r2, hr2, rfl, hb4⟩
  have hb5 : Below w2.heap.size w2 w4 := hb3.trans (hb4.mono hb3.size)
  refine hK.out _ _ hb5 (fun hHeld => ?_)
  clear hK K
  refine wpAnyH_ready (rs := [6]) (by kernel_rfl) (by simp) ?_
  refine AllReadyH.cons rfl (fun K hK => ?_) AllReadyH.nil
  have HR2 := hide hr2
  clear hr2
  go_simp
  refine hK.out _ _ hb5 (fun hHeld => ?_)
  clear hK K
  refine wpAnyH_ready (rs := [7]) (by kernel_rfl) (by simp) ?_
  refine AllReadyH.cons rfl (fun K hK => ?_) AllReadyH.nil
  go_simp
  refine hK.out _ _ hb5 (fun hHeld => ?_)
  clear hK K
  refine wpAnyH_done (by kernel_rfl) ?_ _
  go_wp2
  go_ret
  have b1 := ((Below.refl w.heap.size w).alloc (Nat.le_refl _) (.cells cs 22)).alloc (by simp) (.cells ds 22)
  exact ⟨r1, r2, unhide HR1, unhide HR2, rfl, ((b1.trans ((unhide HB1).mono (by simp; omega))).trans ((unhide HB2).mono (by omega))).trans (hb5.mono (by omega))⟩
end Go.Proofs.Qxb6608534a
