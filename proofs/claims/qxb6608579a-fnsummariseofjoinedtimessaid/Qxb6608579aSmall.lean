/- The walks of the small functions of the float seat. -/
import Derived.Test.Qxb6608579aPairs
import Derived.Test.Qxb6608579aChecked
import Derived.WalkKit
import Derived.WalkSpells
import Derived.WalkLawsBesides
import Derived.Outline
import Derived.Deep.QuietTactic
import Derived.BigQuiet
import Derived.Below
namespace Go.Proofs.Qxb6608579a
open Go.RowKit

theorem run_add {x y r : Nat} (h : Ieee.double.add x y = some r) (t : TypeId) (w : World) : (binOp .add t (.float .f64 x) (.float .f64 y)).run Try.prog w = .ok (.float .f64 r) w := run_float_arith w .add t .f64 x y r h
theorem run_sub {x y r : Nat} (h : Ieee.double.sub x y = some r) (t : TypeId) (w : World) : (binOp .sub t (.float .f64 x) (.float .f64 y)).run Try.prog w = .ok (.float .f64 r) w := run_float_arith w .sub t .f64 x y r h
theorem run_mul {x y r : Nat} (h : Ieee.double.mul x y = some r) (t : TypeId) (w : World) : (binOp .mul t (.float .f64 x) (.float .f64 y)).run Try.prog w = .ok (.float .f64 r) w := run_float_arith w .mul t .f64 x y r h
theorem run_div {x y r : Nat} (h : Ieee.double.div x y = some r) (t : TypeId) (w : World) : (binOp .quo t (.float .f64 x) (.float .f64 y)).run Try.prog w = .ok (.float .f64 r) w := run_float_arith w .quo t .f64 x y r h

theorem run_neg (x : Nat) (w : World) : (Op.unary .neg (.float .f64 x)).run Try.prog w = .ok (.float .f64 (Op.negFloat .f64 x)) w := by
  rfl

theorem run_max {x y : Nat} (h : Ieee.double.order x y ≠ none) (ts : Array TypeId) (t : TypeId) (w : World) : (Builtin.max_ ts t #[.float .f64 x, .float .f64 y]).run Try.prog w = .ok (.float .f64 (fmax x y)) w := by
  have e0 : Builtin.max_ ts t #[.float .f64 x, .float .f64 y] = Builtin.max2 (.float .f64 x) (.float .f64 y) := by simp [Builtin.max_]
  rw [e0]
  unfold Builtin.max2 fmax
  change Sem.run Try.prog (match Ieee.double.order x y with
    | none => do pure (.float .f64 (← choose (.nanMinMax .f64 true x y)))
    | some .lt => pure (.float .f64 y)
    | some .gt => pure (.float .f64 x)
    | some .eq => pure (.float .f64 (if (Ieee.double.read x).neg then y else x)) : Sem Value) w = _
  cases e : Ieee.double.order x y with
  | none => exact absurd e h
  | some o => cases o <;> rfl

set_option maxHeartbeats 1000000 in
/-- (13) ms -/
theorem ms_walk (t : Int) (ht : t.natAbs ≤ 9223372036854775808) (w : World) :
    Calls Try.prog 13 #[.int .i64 t] w fun e w' => e = .returned (.float .f64 (ms t)) ∧ w' = w := by
  have hd : ∀ ty w, (binOp .quo ty (.float .f64 (floatOfInt .f64 t)) (.float .f64 4696837146684686336)).run Try.prog w = .ok (.float .f64 (ms t)) w :=
    fun ty w => run_div (ms_near t ht).1 ty w
  go_enter Try.func13, Try.ntmps13
  go_wp2
  go_ret
  exact ⟨rfl, rfl⟩

set_option maxHeartbeats 1000000 in
/-- (10) zzb1Abs -/
theorem abs_walk (x : Nat) (w : World) :
    Calls Try.prog 10 #[.float .f64 x] w fun e w' => e = .returned (.float .f64 (fabs x)) ∧ w' = w := by
  have hn : ∀ w, (Op.unary .neg (.float .f64 x)).run Try.prog w = .ok (.float .f64 (Op.negFloat .f64 x)) w := run_neg x
  unfold fabs
  cases h : (FloatKind.f64.format.order x 0 == some .lt) with
  | true =>
    have h' : (Ieee.double.order x 0 == some .lt) = true := h
    rw [h', if_pos rfl]
    go_enter Try.func10, Try.ntmps10
    go_wp2
    go_ret
    exact ⟨rfl, rfl⟩
  | false =>
    have h' : (Ieee.double.order x 0 == some .lt) = false := h
    rw [h', if_neg (by simp)]
    go_enter Try.func10, Try.ntmps10
    go_wp2
    go_ret
    exact ⟨rfl, rfl⟩

/-- (15) math.sqrt: in place -/
theorem run_sqrt_f {x r : Nat} (h : Ieee.double.sqrt x = some r) (w : World) : (callFunc 15 #[.float .f64 x]).run Try.prog w = .ok (.value (.float .f64 r)) w := by
  rw [run_callFunc_extern (e := Extern.MathSqrt.sqrt) Try.func15 (by kernel_rfl) (by kernel_rfl) (by kernel_rfl) (by kernel_rfl)]
  have : Extern.MathSqrt.sqrt #[.float .f64 x] = pure (.float .f64 r) := by
    change (match Ieee.double.sqrt x with
      | some r => pure (.float .f64 r)
      | none => do pure (.float .f64 (← choose (.nanBits .f64 x x))) : Sem Value) = _
    rw [h]
  rw [this]
  rfl

set_option maxHeartbeats 1000000 in
/-- (14) math.Sqrt -/
theorem sqrt_walk {x r : Nat} (h : Ieee.double.sqrt x = some r) (w : World) :
    Calls Try.prog 14 #[.float .f64 x] w fun e w' => e = .returned (.float .f64 r) ∧ w' = w := by
  have hs : ∀ w, (callFunc 15 #[.float .f64 x]).run Try.prog w = .ok (.value (.float .f64 r)) w := run_sqrt_f h
  go_enter Try.func14, Try.ntmps14
  go_wp2
  go_ret
  exact ⟨rfl, rfl⟩

set_option maxHeartbeats 1000000 in
/-- (5) the bound on the length -/
theorem bytes_walk (a : Option Addr) (len cap : Nat) (hl : len ≤ 9223372036854775807) (w : World) :
    Calls Try.prog 5 #[.slice a len cap] w fun e w' => e = .returned (.bool (decide (len ≤ 1048576))) ∧ w' = w := by
  by_cases h : len ≤ 1048576
  · go_enter Try.func5, Try.ntmps5
    go_wp2
    go_ret
    exact ⟨by simp [h], rfl⟩
  · go_enter Try.func5, Try.ntmps5
    go_wp2
    go_ret
    exact ⟨by simp [h], rfl⟩
end Go.Proofs.Qxb6608579a
