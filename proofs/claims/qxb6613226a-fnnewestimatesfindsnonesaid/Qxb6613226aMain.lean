import Derived.Test.Qxb6613226aBytes
import Derived.WalkKit
import Derived.WalkSpells
import Derived.WalkLawsBesides
import Derived.Outline
import Derived.Below
import Derived.Laws.CopyOwn
import Derived.Deep.OwnRows
import Derived.Laws.Rows
namespace Go.Proofs.Qxb6613226a
open Go.RowKit

/-- A new register and estimates over it lie in the six blocks that they lay. -/
theorem laid_new (w : World) : Laid ((((((w.alloc (.map #[] 0)).alloc (.map #[] 0)).alloc (.cells #[.map (some w.heap.size), .map (some (w.heap.size + 1))] 63)).alloc
    (.cells #[.pointer (some ⟨w.heap.size + 2, 0, none⟩)] 27)).alloc (.map #[] 0)).alloc (.cells #[.map (some (w.heap.size + 3 + 1)), .func (.func 31) #[] #[.pointer (some ⟨w.heap.size + 3, 0, none⟩)]] 69))
    (w.heap.size + 1) (w.heap.size + 2) (w.heap.size + 3) (w.heap.size + 4) (w.heap.size + 5) := by
  refine ⟨?_, ?_, ?_, ?_, ?_, ?_⟩ <;> simp [World.cell?, World.alloc, Array.getElem_push, -World.alloc_eq]

theorem next {a b c : World} (h : Below a.heap.size a b) (k : Below b.heap.size b c) : Below a.heap.size a c := h.trans (k.mono h.size)

theorem Alone.below {w w' : World} {id grp : ByteArray} {v : Value} (h : Alone w id grp v) (hb : Below w.heap.size w w') : Alone w' id grp v := by
  rcases h with ⟨e, g, rfl, hg, hc⟩ | ⟨e, rfl⟩
  · exact .inl ⟨e, g, rfl, Nat.lt_of_lt_of_le hg hb.size, (hb.cell (p := ⟨g, 0, none⟩) hg).trans hc⟩
  · exact .inr ⟨e, rfl⟩

set_option maxHeartbeats 2000000 in
theorem main_nil (id grp : ByteArray) (y k d : Int) (w : World) :
    Calls Try.prog 4 #[.string id, .string grp, .slice none 0 0, .int .i64 y, .int .i64 k, .int .i32 d] w fun e w' => e = .returned (.bool true) ∧ Below w.heap.size w w' := by
  have hq := fun w => run_neq_slice_nil (P := Try.prog) w 45 9 none 0 0 Try.underlying45
  go_enter Try.func4, Try.ntmps4
  go_wp2_with fail
  refine (bytes_any id grp (.slice none 0 0) y k d w (.inl rfl)).mono ?_
  rintro e w1 ⟨⟨x, rfl⟩, rfl⟩
  cases x with
  | false =>
    go_wp2
    go_ret
    exact ⟨rfl, Below.refl _ _⟩
  | true =>
    by_cases h1 : 65536 < id.size
    · go_wp2
      go_ret
      exact ⟨rfl, Below.refl _ _⟩
    by_cases h2 : 65536 < grp.size
    · go_wp2
      go_ret
      exact ⟨rfl, Below.refl _ _⟩
    go_wp2_with fail
    refine (strBytes_any (.slice none 0 0) _ (.inl rfl)).mono ?_
    rintro e w2 ⟨⟨x, rfl⟩, rfl⟩
    by_cases h3 : 524288 < x
    · go_wp2
      go_ret
      exact ⟨rfl, Below.refl _ _⟩
    go_wp2_with fail
    refine (newReg_any _).mono ?_
    rintro e w3 ⟨rfl, rfl⟩
    go_wp2_with fail
    refine (zznew_any _ _).mono ?_
    rintro e w4 ⟨rfl, hw4⟩
    have hL := laid_new w2
    have hb4 : Below w2.heap.size w2 w4 := by
      rw [hw4]
      exact ((((((Below.refl _ w2).alloc (Nat.le_refl _) _).alloc (by simp) _).alloc (by simp; omega) _).alloc (by simp; omega) _).alloc (by simp; omega) _).alloc (by simp; omega) _
    have hL4 : Laid w4 (w2.heap.size + 1) (w2.heap.size + 2) (w2.heap.size + 3) (w2.heap.size + 4) (w2.heap.size + 5) := by
      rw [hw4]
      simpa using hL
    clear hw4 hL
    have hL5 : Laid w4 (w2.heap.size + 1) (w2.heap.size + 2) (w2.heap.size + 3) (w2.heap.size + 4) (w2.heap.size + 1 + 1 + 1 + 2) := hL4
    clear hL4
    have HB4 := hide hb4
    clear hb4
    go_wp2_with fail
    refine (zzfind_any _ _ _ _ _ y k _ _ hL5 (.inl rfl)).mono ?_
    rintro e w5 ⟨rfl, rfl⟩
    go_wp2_with fail
    have hp5 : Below w5.heap.size w5 (w5.alloc (.cells #[.string id, .string ⟨#[]⟩, .int .i64 0, .string grp, .int .i64 0] 40)) := (Below.refl _ w5).alloc (Nat.le_refl _) _
    refine (zzunder_any _ _ _ _ _ id grp d k _ (hL5.below hp5)).mono ?_
    rintro e w6 ⟨rfl, hb6⟩
    have q0 := hb6.cell (p := ⟨w5.heap.size, 0, none⟩) (by simp)
    have q1 := hb6.cell (p := ⟨w5.heap.size, 1, none⟩) (by simp)
    have q2 := hb6.cell (p := ⟨w5.heap.size, 2, none⟩) (by simp)
    have q3 := hb6.cell (p := ⟨w5.heap.size, 3, none⟩) (by simp)
    have q4 := hb6.cell (p := ⟨w5.heap.size, 4, none⟩) (by simp)
    simp at q0 q1 q2 q3 q4
    have hL6 := (hL5.below hp5).below hb6
    have HB6 := hide (hp5.trans (hb6.mono (by simp)))
    clear hb6 hp5
    go_wp2_with fail
    refine (group_any _ _ _ _ _ id grp d _ hL6).mono ?_
    rintro e w7 ⟨v7, rfl, ha7, hb7⟩
    have HA7 := hide ha7
    have HB7 := hide hb7
    clear ha7 hb7
    go_wp2_with fail
    refine (alone_any id grp _).mono ?_
    rintro e w8 ⟨v8, rfl, ha8, hb8⟩
    have HA8 := hide ha8
    have HB8 := hide hb8
    clear ha8 hb8
    go_wp2_with fail
    refine (sameStr_any id grp v7 v8 _ ((unhide HA7).below (unhide HB8)) (unhide HA8)).mono ?_
    rintro e w9 ⟨rfl, hb9⟩
    have HB9 := hide hb9
    clear hb9
    go_wp2
    go_ret
    exact ⟨rfl, next (next (next (next (unhide HB4) (unhide HB6)) (unhide HB7)) (unhide HB8)) (unhide HB9)⟩

theorem IsStrs.below {w w' : World} {b n c : Nat} (h : IsStrs w (.slice (some ⟨b, 0, none⟩) n c)) (hb : Below w.heap.size w w') : IsStrs w' (.slice (some ⟨b, 0, none⟩) n c) := by
  rcases h with h | ⟨a, n', c', e, hn, hs⟩
  · cases h
  · cases e
    exact .inr ⟨⟨b, 0, none⟩, n, c, rfl, hn, fun i hi => by
      obtain ⟨s, hc⟩ := hs i hi
      exact ⟨s, (hb.cell (p := (⟨b, 0, none⟩ : Addr).add i) (block_lt_of_cell hc)).trans hc⟩⟩

theorem info9 : (Try.prog.info? 9).map (fun i => (i.zero, i.size, i.bytes)) = some (some (Value.string ⟨#[]⟩), 1, 16) := by kernel_rfl
theorem size9 : (Try.prog.info? 9).map (·.size) = some 1 := by kernel_rfl

/-- 'zzc := make([]string, len(ids)); copy(zzc, ids)': the new slice reads as a slice of strings. -/
theorem copy_strs (a : Addr) (n c : Nat) (ss : List ByteArray) (MC : Array Value) (hM : MC.size = n) (w : World) (hn : n ≤ maxLen) (hss : ss.length = n)
    (hs : ∀ i, i < n → w.cell? (a.add i) = some (.string (ss.getD i ByteArray.empty))) :
    ∃ W3, (Builtin.copy_ #[45, 45] 3 #[.slice (some ⟨w.heap.size, 0, none⟩) n n, .slice (some a) n c]).run Try.prog (w.alloc (.cells MC 9)) = .ok (goInt n) W3 ∧
      Below w.heap.size w W3 ∧ w.heap.size < W3.heap.size ∧ IsStrs W3 (.slice (some ⟨w.heap.size, 0, none⟩) n n) := by
  have hb0 : Below w.heap.size w (w.alloc (.cells MC 9)) := (Below.refl _ w).alloc (Nat.le_refl _) _
  by_cases h0 : n = 0
  · subst h0
    refine ⟨w.alloc (.cells MC 9), run_copy_none (P := Try.prog) _ 45 45 3 9 _ _ 0 0 0 c Try.underlying45 size9 rfl, hb0, by simp, .inr ⟨_, 0, 0, rfl, hn, fun i hi => absurd hi (Nat.not_lt_zero _)⟩⟩
  · have hadd : ∀ g j, (⟨g, 0, none⟩ : Addr).add j = ⟨g, j, none⟩ := fun g j => by unfold Addr.add; split <;> simp_all
    have hrun := run_copy_row (P := Try.prog) (w.alloc (.cells MC 9)) 45 45 3 9 w.heap.size 0 n n a n c MC 9 (ss.map Value.string) Try.underlying45 size9 (heap_alloc_new w _)
      (by rw [List.length_map, hss]; exact (Nat.min_self n).symm)
      (fun j v hv => by
        rw [List.getElem?_map] at hv
        obtain ⟨s, hs1, rfl⟩ := Option.map_eq_some_iff.1 hv
        have hj : j < n := by
          rcases Nat.lt_or_ge j ss.length with h | h
          · omega
          · rw [List.getElem?_eq_none h] at hs1; cases hs1
        have hc := hs j hj
        rw [hb0.cell (p := a.add j) (block_lt_of_cell hc), hc, List.getD_eq_getElem?_getD, hs1]
        rfl)
      (by rw [List.length_map]; omega)
      (fun v hv => by
        obtain ⟨s, _, rfl⟩ := List.mem_map.1 hv
        rfl)
    rw [List.length_map, hss] at hrun
    refine ⟨_, hrun, below_setRow hb0 (Nat.le_refl _) _, by simp, .inr ⟨_, n, n, rfl, hn, fun i hi => ⟨ss.getD i ByteArray.empty, ?_⟩⟩⟩
    rw [hadd, cell_of_row _ _ _ _ 9 (0, 0) (setRow_heap _ _ _ _ _ _ (heap_alloc_new w _))]
    simp [List.getElem?_append, hss, hi]

set_option maxRecDepth 100000 in
set_option maxHeartbeats 4000000 in
theorem main_row (id grp : ByteArray) (a : Addr) (n c : Nat) (ss : List ByteArray) (y k d : Int) (w : World) (hn : n ≤ maxLen) (hss : ss.length = n)
    (hs : ∀ i, i < n → w.cell? (a.add i) = some (.string (ss.getD i ByteArray.empty))) :
    Calls Try.prog 4 #[.string id, .string grp, .slice (some a) n c, .int .i64 y, .int .i64 k, .int .i32 d] w fun e w' => e = .returned (.bool true) ∧ Below w.heap.size w w' := by
  have hq := fun w => run_neq_slice_nil (P := Try.prog) w 45 9 (some a) n c Try.underlying45
  have hIs : IsStrs w (.slice (some a) n c) := .inr ⟨a, n, c, rfl, hn, fun i hi => ⟨_, hs i hi⟩⟩
  have HI := hide hIs
  have HS := hide hs
  have HSS := hide hss
  clear hs hss hIs
  unfold maxLen at hn
  go_enter Try.func4, Try.ntmps4
  go_wp2_with fail
  refine (bytes_any id grp (.slice (some a) n c) y k d w (unhide HI)).mono ?_
  rintro e w1 ⟨⟨x, rfl⟩, rfl⟩
  cases x with
  | false =>
    go_wp2
    go_ret
    exact ⟨rfl, Below.refl _ _⟩
  | true =>
    by_cases h1 : 65536 < id.size
    · go_wp2
      go_ret
      exact ⟨rfl, Below.refl _ _⟩
    by_cases h2 : 65536 < grp.size
    · go_wp2
      go_ret
      exact ⟨rfl, Below.refl _ _⟩
    by_cases h2' : 65536 < n
    · go_wp2
      go_ret
      exact ⟨rfl, Below.refl _ _⟩
    go_wp2_with fail
    refine (strBytes_any (.slice (some a) n c) _ (unhide HI)).mono ?_
    rintro e w2 ⟨⟨x, rfl⟩, rfl⟩
    by_cases h3 : 524288 < x
    · go_wp2
      go_ret
      exact ⟨rfl, Below.refl _ _⟩
    have hmk := fun W => run_make_row' (P := Try.prog) 45 9 (.string ⟨#[]⟩) 16 Try.underlying45 info9 rfl .i64 .i64 n (by omega) (by omega) W
    obtain ⟨MC, hMC⟩ : ∃ MC : Array Value, MC = madeCells #[.string ⟨#[]⟩] n := ⟨_, rfl⟩
    rw [← hMC] at hmk
    obtain ⟨w3, hrun, hb3, hlt3, hstr⟩ := copy_strs a n c ss MC (by rw [hMC, size_madeCells]) w2 (by unfold maxLen; omega) (unhide HSS) (unhide HS)
    have HB3 := hide hb3
    have HSTR := hide hstr
    clear hMC hb3 hstr HI HS HSS
    go_wp2_with fail
    refine (newReg_any _).mono ?_
    rintro e wr ⟨rfl, rfl⟩
    go_wp2_with fail
    refine (zznew_any _ _).mono ?_
    rintro e w4 ⟨rfl, hw4⟩
    have hL := laid_new w3
    have hb4 : Below w3.heap.size w3 w4 := by
      rw [hw4]
      exact ((((((Below.refl _ w3).alloc (Nat.le_refl _) _).alloc (by simp) _).alloc (by simp; omega) _).alloc (by simp; omega) _).alloc (by simp; omega) _).alloc (by simp; omega) _
    have hL4 : Laid w4 (w3.heap.size + 1) (w3.heap.size + 2) (w3.heap.size + 3) (w3.heap.size + 4) (w3.heap.size + 5) := by
      rw [hw4]
      simpa using hL
    clear hw4 hL
    have hL5 : Laid w4 (w3.heap.size + 1) (w3.heap.size + 2) (w3.heap.size + 3) (w3.heap.size + 4) (w3.heap.size + 1 + 1 + 1 + 2) := hL4
    clear hL4
    have HB4 := hide hb4
    clear hb4
    go_wp2_with fail
    refine (zzfind_any _ _ _ _ _ y k _ _ hL5 ((unhide HSTR).below (unhide HB4))).mono ?_
    rintro e w5 ⟨rfl, rfl⟩
    go_wp2_with fail
    have hp5 : Below w5.heap.size w5 (w5.alloc (.cells #[.string id, .string ⟨#[]⟩, .int .i64 0, .string grp, .int .i64 0] 40)) := (Below.refl _ w5).alloc (Nat.le_refl _) _
    refine (zzunder_any _ _ _ _ _ id grp d k _ (hL5.below hp5)).mono ?_
    rintro e w6 ⟨rfl, hb6⟩
    have q0 := hb6.cell (p := ⟨w5.heap.size, 0, none⟩) (by simp)
    have q1 := hb6.cell (p := ⟨w5.heap.size, 1, none⟩) (by simp)
    have q2 := hb6.cell (p := ⟨w5.heap.size, 2, none⟩) (by simp)
    have q3 := hb6.cell (p := ⟨w5.heap.size, 3, none⟩) (by simp)
    have q4 := hb6.cell (p := ⟨w5.heap.size, 4, none⟩) (by simp)
    simp at q0 q1 q2 q3 q4
    have hL6 := (hL5.below hp5).below hb6
    have HB6 := hide (hp5.trans (hb6.mono (by simp)))
    clear hb6 hp5
    go_wp2_with fail
    refine (group_any _ _ _ _ _ id grp d _ hL6).mono ?_
    rintro e w7 ⟨v7, rfl, ha7, hb7⟩
    have HA7 := hide ha7
    have HB7 := hide hb7
    clear ha7 hb7
    go_wp2_with fail
    refine (alone_any id grp _).mono ?_
    rintro e w8 ⟨v8, rfl, ha8, hb8⟩
    have HA8 := hide ha8
    have HB8 := hide hb8
    clear ha8 hb8
    go_wp2_with fail
    refine (sameStr_any id grp v7 v8 _ ((unhide HA7).below (unhide HB8)) (unhide HA8)).mono ?_
    rintro e w9 ⟨rfl, hb9⟩
    have HB9 := hide hb9
    clear hb9
    go_wp2
    go_ret
    exact ⟨rfl, next (next (next (next (next (unhide HB3) (unhide HB4)) (unhide HB6)) (unhide HB7)) (unhide HB8)) (unhide HB9)⟩
end Go.Proofs.Qxb6613226a
