/- FnSummariseOfJoinedTimes: the walk. -/
import Derived.Test.Qxb6608579aJoin6
import Derived.Test.Qxb6608579aSum
import Derived.Lib.JoinLaws
import Derived.Deep.DeepAppendRoom
import Derived.Laws.OwnMore
namespace Go.Proofs.Qxb6608579a
open Go.RowKit

theorem info2 : (Try.prog.info? 2).map (fun i => (i.zero, i.size, i.bytes)) = some (some (Value.int .i64 0), 1, 8) := by kernel_rfl
theorem info2' : ∃ i, Try.prog.info? 2 = some i ∧ i.size = 1 := by
  obtain ⟨i, hi, h⟩ := Option.map_eq_some_iff.1 info2
  simp only [Prod.mk.injEq] at h
  exact ⟨i, hi, h.2.1⟩

/-- One more element where there is room: what the law asks, and what follows. -/
theorem app_ask (G k n : Nat) (xs : List Value) (v : Int) (w wr : World) (hown : wr.ownsRow w.heap.size 2 1 (.slice (some ⟨G, 0, none⟩) k n) k xs) :
    (wr.alloc (.cells #[.int .i64 v] 2)).ownsRow w.heap.size 2 1 (.slice (some ⟨G, 0, none⟩) k n) k xs ∧
    (∀ (j : Nat) (u : Value), [Value.int .i64 v][j]? = some u → (wr.alloc (.cells #[.int .i64 v] 2)).cell? ((⟨wr.heap.size, 0, none⟩ : Addr).add j) = some u) ∧
    (∀ u ∈ [Value.int .i64 v], u.oneCell' = true) := by
  have hg : wr.grownBy (wr.alloc (.cells #[.int .i64 v] 2)) none := ⟨rfl, rfl, rfl, by simp, fun k hk _ => Below.heap_alloc wr _ k hk⟩
  refine ⟨hown.kept hg (.inr (by simp [Value.ownBlock])), fun j u hj => ?_, fun u hu => by simp at hu; subst hu; rfl⟩
  rw [add_new, cell_of_row _ wr.heap.size j _ 2 (0, 0) (heap_alloc_new wr _)]
  simpa using hj

theorem app_below {G k n : Nat} {xs : List Value} {v : Int} {w wr W : World} (hown : wr.ownsRow w.heap.size 2 1 (.slice (some ⟨G, 0, none⟩) k n) k xs) (hb : Below w.heap.size w wr)
    (h3 : (wr.alloc (.cells #[.int .i64 v] 2)).grownBy W (some G)) : Below w.heap.size w W := by
  have hlt := hown.lt G rfl
  exact Below.grown (hb.alloc hb.size _) h3 (by simp; exact Nat.le_succ_of_le hb.size) (fun k hk => by cases hk; exact hlt.1)

def lst (js : Nat → Int) (k : Nat) : List Value := (List.range k).map fun i => .int .i64 (js i)

theorem lst_succ (js : Nat → Int) (k : Nat) : lst js k ++ [.int .i64 (js k)] = lst js (k + 1) := by
  unfold lst
  rw [List.range_succ, List.map_append]
  rfl

theorem lst_at (js : Nat → Int) (k i : Nat) (h : i < k) : (lst js k)[i]? = some (.int .i64 (js i)) := by
  unfold lst
  simp [h]

/-- (7), as the caller needs it. -/
theorem dur_any (x : Addr) (len cap : Nat) (ts : Nat → Int) (w : World) (hl : len ≤ 131072) (hlc : len ≤ cap) (hcell : ∀ i, i < len → w.cell? (x.add i) = some (.int .i64 (ts i))) :
    Calls Try.prog 7 #[.slice (some x) len cap] w fun e w' => ∃ g, e = .returned (.slice (some ⟨g, 0, none⟩) len len) ∧ (∀ i, i < len → w'.cell? ((⟨g, 0, none⟩ : Addr).add i) = some (.int .i64 (ts i))) ∧ Below w.heap.size w w' := by
  refine (dur_walk x len cap ts w hl hlc hcell).mono ?_
  rintro e w' ⟨c, hc, hcc, rfl, rfl⟩
  refine ⟨w.heap.size, rfl, fun i hi => ?_, (Below.refl _ w).alloc (Nat.le_refl _) _⟩
  rw [add_new, cell_of_row _ w.heap.size i c 33 (0, 0) (heap_alloc_new w _)]
  exact hcc i hi

theorem row_kept {w w' : World} (hb : Below w.heap.size w w') {x : Addr} {len : Nat} {ts : Nat → Int} (h : ∀ i, i < len → w.cell? (x.add i) = some (.int .i64 (ts i))) :
    ∀ i, i < len → w'.cell? (x.add i) = some (.int .i64 (ts i)) := fun i hi => by
  have := h i hi
  rw [hb.cell (block_lt_of_cell this)]; exact this

theorem next {B : Nat} {a b c : World} (h : Below B a b) (k : Below b.heap.size b c) (hB : B ≤ a.heap.size) : Below B a c := h.trans (k.mono (Nat.le_trans hB h.size))

set_option maxHeartbeats 1000000 in
/-- (11) -/
theorem bytes2_walk (a b : Option Addr) (la ca lb cb : Nat) (ha : la ≤ 9223372036854775807) (hb : lb ≤ 9223372036854775807) (w : World) :
    Calls Try.prog 11 #[.slice a la ca, .slice b lb cb] w fun e w' => (∃ r : Bool, e = .returned (.bool r)) ∧ w' = w := by
  by_cases h1 : la ≤ 1048576
  · by_cases h2 : lb ≤ 1048576
    · by_cases h3 : la + lb ≤ 1048576
      · go_enter Try.func11, Try.ntmps11
        go_wp2
        go_ret
        exact ⟨⟨_, rfl⟩, rfl⟩
      · go_enter Try.func11, Try.ntmps11
        go_wp2
        go_ret
        exact ⟨⟨_, rfl⟩, rfl⟩
    · go_enter Try.func11, Try.ntmps11
      go_wp2
      go_ret
      exact ⟨⟨_, rfl⟩, rfl⟩
  · go_enter Try.func11, Try.ntmps11
    go_wp2
    go_ret
    exact ⟨⟨_, rfl⟩, rfl⟩
end Go.Proofs.Qxb6608579a
