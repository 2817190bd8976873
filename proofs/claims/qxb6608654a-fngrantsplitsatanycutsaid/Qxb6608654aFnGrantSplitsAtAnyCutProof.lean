/-
  The proof of 'Rows.FnGrantSplitsAtAnyCutSaid'. The frame was written by program (proof-skeleton.mjs); the walk is filled in.
-/
import Derived.Test.Qxb6608654aRows
import Derived.Test.Qxb6608654aWalks
import Derived.WalkKit
import Derived.ProofKit
import Derived.OpenShut
import Derived.ShutString
namespace Go.Proofs.Qxb6608654a.fnGrantSplitsAtAnyCut
open Go.ChangeShapes Go.WideShapes Go.ChangeAt Go.RowKit
open Go.ChangeMaps (open_string shut_string)
set_option linter.unusedVariables false      -- a walk need not use every 'w<i>' (that an integer argument fits its kind)

theorem own : ownKnob Try.prog.godebug = none := by kernel_rfl

/-! ### STEP 1: THE WALK: the Go text returns true. 'Grown w w'': the world has at most new blocks (Derived/RowKit3.lean). Part the cases AHEAD of 'go_enter' where a test parts the walk; take each callee by a contract of your own. -/
theorem split_law (g m n A B C : Int) (hA : A = wrap64 (g + wrap64 (256 * m))) (hB : B = wrap64 (A + wrap64 (256 * n))) (hC : C = wrap64 (g + wrap64 (256 * (m + n)))) :
    B = C ∧ wrap64 (C - g) = wrap64 ((m + n) * 256) := by
  unfold wrap64 at *
  omega

set_option maxHeartbeats 1000000 in
theorem walk_in (g s m n : Int) (w : World) (hm : 0 ≤ m) (hn : 0 ≤ n) (hmn : m + n ≤ 9223372036854775807) :
    Calls Try.prog 3 #[.int .i64 g, .int .i64 s, .int .i64 m, .int .i64 n] w fun e w' => e = .returned (.bool true) ∧ Below w.heap.size w w' := by
  have h1 : ¬ m < 0 := by omega
  have h2 : ¬ n < 0 := by omega
  have h3 : ¬ 9223372036854775807 - n < m := by omega
  go_enter Try.func3, Try.ntmps3
  go_wp2_with fail
  refine (new_any g s _).mono ?_
  rintro e w1 ⟨rfl, rfl⟩
  go_wp2_with fail
  refine (grant_any w.heap.size g m _ (by simp) (by simp)).mono ?_
  rintro e w1 ⟨A, hA, rfl, rfl⟩
  go_wp2_with fail
  refine (grant_any w.heap.size A n _ (by simp) (by simp)).mono ?_
  rintro e w1 ⟨B, hB, rfl, rfl⟩
  go_wp2_with fail
  refine (state_any w.heap.size B s _ (by simp) (by simp)).mono ?_
  rintro e W1 ⟨q1, rfl, hW1⟩
  have HB1 : Hid (Below w.heap.size w W1) := by
    rw [hW1]
    exact ((Below.refl _ w).alloc (Nat.le_refl _) _).trans ⟨rfl, rfl, rfl, Nat.le_refl _, fun _ _ => rfl⟩
  clear hW1
  go_wp2_with fail
  refine (new_any g s _).mono ?_
  rintro e w1 ⟨rfl, rfl⟩
  go_wp2_with fail
  refine (grant_any W1.heap.size g (m + n) _ (by simp) (by simp)).mono ?_
  rintro e w1 ⟨C, hC, rfl, rfl⟩
  go_wp2_with fail
  refine (state_any W1.heap.size C s _ (by simp) (by simp)).mono ?_
  rintro e W2 ⟨q2, rfl, hW2⟩
  have HB2 : Hid (Below w.heap.size w W2) := by
    rw [hW2]
    exact ((unhide HB1).alloc (unhide HB1).size _).trans ⟨rfl, rfl, rfl, Nat.le_refl _, fun _ _ => rfl⟩
  clear hW2
  obtain ⟨e1, e2⟩ := split_law g m n A B C (unhide hA) (unhide hB) (unhide hC)
  have t1 : (B == C) = true := by rw [e1]; simp
  have t2 : (wrap64 (C - g) == wrap64 ((m + n) * 256)) = true := by rw [e2]; simp
  clear e1 e2
  go_wp2
  go_ret
  exact ⟨rfl, unhide HB2⟩

set_option maxHeartbeats 1000000 in
theorem walk_out (g s m n : Int) (w : World) (hn0 : -9223372036854775808 ≤ n) (hn1 : n ≤ 9223372036854775807) (h : m < 0 ∨ n < 0 ∨ 9223372036854775807 < m + n) :
    Calls Try.prog 3 #[.int .i64 g, .int .i64 s, .int .i64 m, .int .i64 n] w fun e w' => e = .returned (.bool true) ∧ Below w.heap.size w w' := by
  by_cases h1 : m < 0
  · go_enter Try.func3, Try.ntmps3
    go_wp2
    go_ret
    exact ⟨rfl, Below.refl _ _⟩
  · by_cases h2 : n < 0
    · go_enter Try.func3, Try.ntmps3
      go_wp2
      go_ret
      exact ⟨rfl, Below.refl _ _⟩
    · have h3 : 9223372036854775807 - n < m := by omega
      go_enter Try.func3, Try.ntmps3
      go_wp2
      go_ret
      exact ⟨rfl, Below.refl _ _⟩

theorem walk (a0 : Int) (a1 : Int) (a2 : Int) (a3 : Int) (w0 : (Lit.int .i64 a0).wf = true) (w1 : (Lit.int .i64 a1).wf = true) (w2 : (Lit.int .i64 a2).wf = true) (w3 : (Lit.int .i64 a3).wf = true) (w : World) :
    Calls Try.prog 3 #[.int .i64 a0, .int .i64 a1, .int .i64 a2, .int .i64 a3] w fun e w' => e = .returned (.bool true) ∧ Below w.heap.size w w' := by
  have b3 := bounds_i64 w3
  by_cases h : 0 ≤ a2 ∧ 0 ≤ a3 ∧ a2 + a3 ≤ 9223372036854775807
  · exact walk_in a0 a1 a2 a3 w h.1 h.2.1 h.2.2
  · exact walk_out a0 a1 a2 a3 w b3.1 b3.2 (by omega)

/-! ### THE ROW's STEP: WRITTEN OUT: LEAVE IT -/
set_option maxRecDepth 100000 in
theorem lifted (os : Os) (started : os.Started) (H : Type) (enc : TypeId × Value → H) :
    ReturnsInHanded {} Try.checked os 3 .any (Rows.fnGrantSplitsAtAnyCutSpec.pre6 enc Try.prog Try.f3 Rows.fnGrantSplitsAtAnyCutRow.domain false) (Rows.fnGrantSplitsAtAnyCutSpec.post enc Try.prog Try.f3 false true false false) := by
  refine returnsInHanded_of_change (C := Try.checked) own started (by kernel_rfl) Try.func3
    (ChangeSpec.witness6 (enc := enc) (C := Try.checked) false ⟨#[], #[.int .i64 0, .int .i64 0, .int .i64 0, .int .i64 0], []⟩ 8 (by kernel_rfl) (by kernel_rfl) (by kernel_rfl) (by kernel_rfl)) ?_
  intro W base args ds gs before hval0 hW hcnd _
  have hval : ∀ (j : Nat) t v, Try.f3.params[j]? = some t → args[j]? = some v → Value.okWide Try.prog W .any base t v := hval0
  have hW' := hW
  obtain ⟨p, q, hA0, hV, rfl, hfz, hnd⟩ := hW
  have hA : DataW.TrodAll enc Try.prog W 0 (fun _ => true) true Try.f3.params.toList args.toList ds p := hA0
  rw [Try.params3] at hA hval
  obtain ⟨v0, vs0, d0, ds0, p0, q0, hargs, rfl, rfl, h0, r0⟩ := trodAll_cons hA
  obtain ⟨v1, vs1, d1, ds1, p1, q1, rfl, rfl, rfl, h1, r1⟩ := trodAll_cons r0
  obtain ⟨v2, vs2, d2, ds2, p2, q2, rfl, rfl, rfl, h2, r2⟩ := trodAll_cons r1
  obtain ⟨v3, vs3, d3, ds3, p3, q3, rfl, rfl, rfl, h3, r3⟩ := trodAll_cons r2
  obtain ⟨rfl, rfl, rfl⟩ := trodAll_nil r3
  obtain rfl : args = #[v0, v1, v2, v3] := by cases args; simp_all
  obtain ⟨rfl, rfl⟩ := trodVars_none hV
  obtain ⟨a0, rfl, rfl, rfl, w0⟩ := open_int Try.underlying2 (hval 0 2 v0 rfl rfl) h0
  obtain ⟨a1, rfl, rfl, rfl, w1⟩ := open_int Try.underlying2 (hval 1 2 v1 rfl rfl) h1
  obtain ⟨a2, rfl, rfl, rfl, w2⟩ := open_int Try.underlying3 (hval 2 3 v2 rfl rfl) h2
  obtain ⟨a3, rfl, rfl, rfl, w3⟩ := open_int Try.underlying3 (hval 3 3 v3 rfl rfl) h3
  clear hA0 hval0
  simp only [List.append_nil] at hW'
  refine (walk a0 a1 a2 a3 w0 w1 w2 w3 W).mono fun e W' ⟨he, bel⟩ => ?_
  subst he
  exact ⟨_, rfl, _, _, _, [], [], [], hW', trodAll_mk1 (shut_bool Try.underlying4 _),
    (trodAll_cons_mk (shut_int Try.underlying2 w0) (trodAll_cons_mk (shut_int Try.underlying2 w1) (trodAll_cons_mk (shut_int Try.underlying3 w2) (trodAll_cons_mk (shut_int Try.underlying3 w3) trodAll_mk0)))), rfl, bel.frame _, fun h => by cases h⟩

theorem over : Rows.fnGrantSplitsAtAnyCutRow.holds Try.pinned (OpenSpec.ofChange Rows.fnGrantSplitsAtAnyCutSpec) :=
  OpenClaim.holds_of_wide 3 Try.f3 rfl rfl rfl rfl rfl rfl rfl ⟨rfl, rfl, rfl, rfl, rfl⟩ rfl rfl rfl rfl rfl (by kernel_rfl) Try.func3 (by kernel_rfl)
    (of_decide_eq_true (by kernel_rfl)) (by unfold Func.isWrapper; first | (rw [if_pos (by decide +kernel)]; kernel_rfl) | (rw [if_neg (by decide +kernel)]; exact ⟨rfl, rfl⟩))
    (fun os started H enc _ => lifted os started H enc)

/-- ████ THE STATEMENT ████ -/
theorem proved : Rows.FnGrantSplitsAtAnyCutSaid :=
  over
#print axioms proved
end Go.Proofs.Qxb6608654a.fnGrantSplitsAtAnyCut
