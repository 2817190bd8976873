import Derived.Test.Qxb6608534aShelf
import Derived.WalkKit
import Derived.WalkSpells
import Derived.WalkLawsBesides
import Derived.Outline
import Derived.Laws.Rows
import Derived.Lib.ConvBytes
import Derived.Below
namespace Go.Proofs.Qxb6608534a
open Go.RowKit Go.Lib

theorem hide {p : Prop} (h : p) : Hid p := h
theorem unhide {p : Prop} (h : Hid p) : p := h

/-- A commitment's 32 bytes as the cells of an array. -/
structure IsArr (l : List UInt8) (cs : Array Value) : Prop where
  len : l.length = 32
  size : cs.size = 32
  at_ : ∀ i (h : i < l.length), cs[i]? = some (.int .u8 ((l[i]'h).toNat : Int))

theorem IsArr.cell {l : List UInt8} {cs : Array Value} (h : IsArr l cs) (w : World) (t : TypeId) (i : Nat) (hi : i < l.length) :
    (w.alloc (.cells cs t)).cell? ⟨w.heap.size, i, none⟩ = some (.int .u8 ((l[i]'hi).toNat : Int)) := by
  rw [cell_of_row _ w.heap.size i cs t (0, 0) (heap_alloc_new w _)]
  exact h.at_ i hi

set_option maxHeartbeats 400000 in
theorem string_any (l : List UInt8) (cs : Array Value) (w : World) (h : IsArr l cs) :
    Calls Try.prog 6 #[.agg cs] w fun e w' => e = .returned (.string ⟨(Hx.encode l).toArray⟩) ∧ Below w.heap.size w w' := by
  have hx := hex_bytes w.heap.size 0 32 l (w.alloc (.cells cs 23))
    (fun i hi => by rw [Nat.zero_add]; exact h.cell w 23 i hi) (by simp) (by have := h.len; omega)
  rw [h.len] at hx
  have HX := hide hx
  clear hx
  go_enter Try.func6, Try.ntmps6
  go_wp2_with fail
  refine (unhide HX).mono ?_
  rintro e w1 ⟨rfl, hb⟩
  go_wp2
  go_ret
  refine ⟨rfl, ((Below.refl _ w).alloc (Nat.le_refl _) _).trans (hb.mono (by simp))⟩

set_option maxHeartbeats 400000 in
theorem marshal_any (l : List UInt8) (cs : Array Value) (w : World) (h : IsArr l cs) :
    Calls Try.prog 5 #[.agg cs] w fun e w' => ∃ g cap : Nat, e = .returned (.tuple #[.slice (some ⟨g, 0, none⟩) 64 cap, .nilIface]) ∧ w.heap.size ≤ g ∧ g < w'.heap.size ∧
      (∀ i, i < 64 → w'.cell? ⟨g, i, none⟩ = some (.int .u8 (((Hx.encode l)[i]?.getD 0).toNat : Int))) ∧ Below w.heap.size w w' := by
  obtain ⟨s, hs⟩ : ∃ s : ByteArray, s = ⟨(Hx.encode l).toArray⟩ := ⟨_, rfl⟩
  have hx := fun W => string_any l cs W h
  rw [← hs] at hx
  have HX := hide hx
  have HS := hide hs
  clear hx hs
  have hsz : s.size = 64 := by rw [unhide HS]; show (Hx.encode l).toArray.size = 64; simp [Hx.encode_length, h.len]
  have hconv := fun W => Lib.run_convert_string_bytes (P := Try.prog) W 9 24 5 s Try.underlying9 Try.underlying24 Try.underlying5
  rw [hsz] at hconv
  have hi : (Try.prog.info? 23).map (·.size) = some cs.size := by rw [h.size]; kernel_rfl
  go_enter Try.func5, Try.ntmps5
  go_wp2_with (first | (refine wpList_load_row rfl 23 _ rfl w.heap.size rfl 23 cs (0, 0) _ (heap_alloc_new w _) Try.underlying23 rfl hi ?_) | (go_at_call 6; refine (unhide HX _).mono ?_; rintro e w1 ⟨rfl, hb⟩))
  go_ret2
  have hbw : Below w1.heap.size w1 (bytesWorld w1 5 s) := ⟨rfl, rfl, rfl, by rw [bytesWorld_size]; omega, fun k hk => bytesWorld_at_old w1 5 s k hk⟩
  have hz := hb.size
  simp at hz
  refine ⟨w1.heap.size, _, rfl, by omega, by rw [bytesWorld_size]; omega, fun i hi => ?_, (((Below.refl _ w).alloc (Nat.le_refl _) _).trans (hb.mono (by simp))).trans (hbw.mono (by omega))⟩
  rw [bytesWorld_cell w1 5 s i (by omega), unhide HS]
  simp
end Go.Proofs.Qxb6608534a
