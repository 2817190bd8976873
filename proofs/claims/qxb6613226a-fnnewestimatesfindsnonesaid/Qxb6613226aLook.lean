import Derived.Test.Qxb6613226aProg
import Derived.WalkKit
import Derived.WalkSpells
import Derived.WalkLawsBesides
import Derived.Below
namespace Go.Proofs.Qxb6613226a
open Go.RowKit

theorem hide {p : Prop} (h : p) : Hid p := h
theorem unhide {p : Prop} (h : Hid p) : p := h

theorem look65_nil (y k : Int) (w : World) : (Instr.lookup 65 (.map none) (.agg #[.int .i64 y, .int .i64 k]) false).run Try.prog w = .ok (.map none) w := by kernel_rfl
theorem look79_nil (s : ByteArray) (w : World) : (Instr.lookup 79 (.map none) (.string s) true).run Try.prog w = .ok (.tuple #[.pointer none, .bool false]) w := by kernel_rfl
theorem look61_nil (s : ByteArray) (w : World) : (Instr.lookup 61 (.map none) (.string s) false).run Try.prog w = .ok (.slice none 0 0) w := by kernel_rfl

theorem look_empty {P : Program} (t k e : TypeId) (ht : P.underlying t = some (.map k e)) (r c : Nat) (key : Value) (ok : Bool) (w : World) (h : w.heap[r]? = some (.map #[] c)) :
    (Instr.lookup t (.map (some r)) key ok).run P w = (Instr.lookup t (.map none) key ok).run P w := by
  simp only [Instr.lookup, Sem.run_bind, run_underlying ht, Result.andThen, MapKept.run_getObj_map h, Sem.run_pure]
end Go.Proofs.Qxb6613226a
