/- summarise of no times: what is not a number. -/
import Derived.Test.Qxb6608579aSum
namespace Go.Proofs.Qxb6608579a
open Go.RowKit

def nanOf (t : Nat) : Nat := (t % 2) * 2 ^ 63 + 0x7ff0000000000000 + 1 + (t / 2) % (2 ^ 52 - 1)

theorem nan_read (t : Nat) : ∃ s p, Ieee.double.read (nanOf t) = .nan s p := by
  have h1 : t % 2 < 2 := Nat.mod_lt _ (by omega)
  have h2 : (t / 2) % (2 ^ 52 - 1) < 2 ^ 52 - 1 := Nat.mod_lt _ (by omega)
  have e1 : Ieee.double.signWeight = 9223372036854775808 := by decide
  have e2 : Ieee.double.infRung = 9218868437227405312 := by decide
  have e3 : Ieee.double.binade = 4503599627370496 := by decide
  have h3 : nanOf t % 9223372036854775808 = 0x7ff0000000000000 + 1 + (t / 2) % (2 ^ 52 - 1) := by unfold nanOf; omega
  unfold Ieee.Format.read
  simp only [e1, e2, e3]
  rw [h3, if_neg (by omega), if_neg (by omega), if_neg (by omega)]
  exact ⟨_, _, rfl⟩

/-- Not a number: it is not equal to itself, and has no root. -/
def IsNan (b : Nat) : Prop := (Ieee.double.order b b != some .eq) = true ∧ Ieee.double.sqrt b = none

theorem nan_is (t : Nat) : IsNan (nanOf t) := by
  obtain ⟨s, p, h⟩ := nan_read t
  constructor
  · unfold Ieee.Format.order; rw [h]; rfl
  · unfold Ieee.Format.sqrt; rw [h]; rfl

theorem run_nan {a b : Nat} (q : Question) (h : q = .nanBits .f64 a b) (w : World) : ∃ r, IsNan r ∧ (choose q).run Try.prog w = .ok r w.drew := by
  refine ⟨nanOf (w.tape w.drawn q), nan_is _, ?_⟩
  rw [run_choose_drew, h]
  rfl

theorem zero_div : Ieee.double.div 0 (floatOfInt .f64 0) = none := by decide +kernel

theorem run_zero (w : World) : ∃ r, IsNan r ∧ ∀ ty, (binOp .quo ty (.float .f64 0) (.float .f64 (floatOfInt .f64 0))).run Try.prog w = .ok (.float .f64 r) w.drew := by
  obtain ⟨r, hr, e⟩ := run_nan (.nanBits .f64 0 (floatOfInt .f64 0)) rfl w
  refine ⟨r, hr, fun ty => ?_⟩
  have : binOp .quo ty (.float .f64 0) (.float .f64 (floatOfInt .f64 0)) = (do pure (.float .f64 (← choose (.nanBits .f64 0 (floatOfInt .f64 0)))) : Sem Value) := by
    have z : FloatKind.f64.format.div 0 (floatOfInt .f64 0) = none := zero_div
    simp [binOp, Op.floatArith, z]
  rw [this]
  simp only [Sem.run_bind, e, Sem.run_pure, Result.andThen]

theorem run_root (b : Nat) (h : IsNan b) (w : World) : ∃ r, IsNan r ∧ (callFunc 15 #[.float .f64 b]).run Try.prog w = .ok (.value (.float .f64 r)) w.drew := by
  obtain ⟨r, hr, e⟩ := run_nan (.nanBits .f64 b b) rfl w
  refine ⟨r, hr, ?_⟩
  rw [run_callFunc_extern (e := Extern.MathSqrt.sqrt) Try.func15 (by kernel_rfl) (by kernel_rfl) (by kernel_rfl) (by kernel_rfl)]
  have : Extern.MathSqrt.sqrt #[.float .f64 b] = (do pure (.float .f64 (← choose (.nanBits .f64 b b))) : Sem Value) := by
    change (match Ieee.double.sqrt b with
      | some r => pure (.float .f64 r)
      | none => do pure (.float .f64 (← choose (.nanBits .f64 b b))) : Sem Value) = _
    rw [h.2]
  rw [this]
  simp only [Sem.run_bind, e, Sem.run_pure, Result.andThen]

set_option maxHeartbeats 1000000 in
/-- (14) of what is not a number -/
theorem sqrt_nan (b : Nat) (h : IsNan b) (w : World) :
    Calls Try.prog 14 #[.float .f64 b] w fun e w' => ∃ r, IsNan r ∧ e = .returned (.float .f64 r) ∧ w' = w.drew := by
  obtain ⟨r, hr, hs⟩ := run_root b h w
  have HR := hide hr
  clear hr h
  go_enter Try.func14, Try.ntmps14
  go_wp2
  go_ret
  exact ⟨r, unhide HR, rfl, rfl⟩

set_option maxHeartbeats 4000000 in
/-- (12) summarise of no times -/
theorem sum_none (x : Addr) (c : Nat) (w : World) :
    Calls Try.prog 12 #[.slice (some x) 0 c] w fun e w' => ∃ m s, IsNan m ∧ IsNan s ∧ e = .returned (.tuple #[.float .f64 m, .float .f64 s, .float .f64 0]) ∧ Below w.heap.size w w' := by
  obtain ⟨r1, n1, h1⟩ := run_zero w
  obtain ⟨r2, n2, h2⟩ := run_zero w.drew
  have H1 := hide n1
  have H2 := hide n2
  clear n1 n2
  go_enter Try.func12, Try.ntmps12
  go_wp2
  go_loop [4, 6, 14] (fun t4 t6 t => t4 = .float .f64 0 ∧ t6 = .float .f64 0 ∧ t = .int .i64 0) (fun _ _ _ => 0)
  case atStart => exact ⟨rfl, rfl, rfl⟩
  case round =>
    obtain ⟨rfl, rfl, rfl⟩ := hrel
    go_wp2
    go_loop [9, 36] (fun t9 t => t9 = .float .f64 0 ∧ t = .int .i64 0) (fun _ _ => 0)
    case atStart => exact ⟨rfl, rfl⟩
    case round =>
      obtain ⟨rfl, rfl⟩ := hrel
      go_wp2_with fail
      refine (sqrt_nan r2 (unhide H2) _).mono ?_
      rintro e w1 ⟨r3, n3, rfl, rfl⟩
      have H3 := hide n3
      clear n3
      go_wp2
      go_ret3
      exact ⟨r1, r3, unhide H1, unhide H3, rfl, ((Below.refl _ w).drew.drew).drew⟩

set_option maxHeartbeats 1000000 in
/-- (6) ZZsummarise of no times -/
theorem zzsum_none (x : Addr) (c : Nat) (w : World) :
    Calls Try.prog 6 #[.slice (some x) 0 c] w fun e w' => ∃ m s, IsNan m ∧ IsNan s ∧ e = .returned (.tuple #[.float .f64 m, .float .f64 s, .float .f64 0]) ∧ Below w.heap.size w w' := by
  go_enter Try.func6, Try.ntmps6
  go_wp2_with fail
  refine (sum_none x c w).mono ?_
  rintro e w1 ⟨m, s, n1, n2, rfl, hb⟩
  have H1 := hide n1
  have H2 := hide n2
  have H3 := hide hb
  clear n1 n2 hb
  go_wp2
  go_ret3
  exact ⟨m, s, unhide H1, unhide H2, rfl, unhide H3⟩
end Go.Proofs.Qxb6608579a
