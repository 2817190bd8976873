/- FnSummariseOfJoinedTimes: the lengths at which it answers at once. -/
import Derived.Test.Qxb6608579aMain4
namespace Go.Proofs.Qxb6608579a
open Go.RowKit

set_option maxRecDepth 100000 in
set_option maxHeartbeats 2000000 in
theorem main4_edge (a b : Option Addr) (la ca lb cb : Nat) (w : World) (hla : la ≤ 9223372036854775807) (hlb : lb ≤ 9223372036854775807) (h : 65536 < la ∨ 65536 < lb ∨ la = 0 ∨ lb = 0) :
    Calls Try.prog 4 #[.slice a la ca, .slice b lb cb] w fun e w' => e = .returned (.bool true) ∧ Below w.heap.size w w' := by
  by_cases h1 : 65536 < la
  · go_enter Try.func4, Try.ntmps4
    go_wp2_with fail
    refine (bytes2_walk a b la ca lb cb hla hlb w).mono ?_
    rintro e w0 ⟨⟨r, rfl⟩, rfl⟩
    cases r <;> (go_wp2; go_ret; exact ⟨rfl, Below.refl _ _⟩)
  · by_cases h2 : 65536 < lb
    · go_enter Try.func4, Try.ntmps4
      go_wp2_with fail
      refine (bytes2_walk a b la ca lb cb hla hlb w).mono ?_
      rintro e w0 ⟨⟨r, rfl⟩, rfl⟩
      cases r <;> (go_wp2; go_ret; exact ⟨rfl, Below.refl _ _⟩)
    · rcases (show la = 0 ∨ (la ≠ 0 ∧ lb = 0) by omega) with rfl | ⟨h3, rfl⟩
      · go_enter Try.func4, Try.ntmps4
        go_wp2_with fail
        refine (bytes2_walk a b 0 ca lb cb hla hlb w).mono ?_
        rintro e w0 ⟨⟨r, rfl⟩, rfl⟩
        cases r <;> (go_wp2; go_ret; exact ⟨rfl, Below.refl _ _⟩)
      · have hz1 : ((la : Int) == 0) = false := beq_eq_false_iff_ne.2 (by omega)
        go_enter Try.func4, Try.ntmps4
        go_wp2_with fail
        refine (bytes2_walk a b la ca 0 cb hla hlb w).mono ?_
        rintro e w0 ⟨⟨r, rfl⟩, rfl⟩
        cases r <;> (go_wp2; go_ret; exact ⟨rfl, Below.refl _ _⟩)
end Go.Proofs.Qxb6608579a
