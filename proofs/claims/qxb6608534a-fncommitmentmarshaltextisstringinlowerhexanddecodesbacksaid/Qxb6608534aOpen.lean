/- Opening an argument of type [32]byte (the dump's type 22): the value is an aggregate of 32 bytes. -/
import Derived.Test.Qxb6608534aWalks
import Derived.ProofKit
import Derived.OpenShut
namespace Go.Proofs.Qxb6608534a
open Go.ChangeShapes Go.WideShapes Go.ChangeAt Go.RowKit

theorem cells22 : Try.prog.cellsOf 22 = 32 := by kernel_rfl
theorem cells5 : Try.prog.cellsOf 5 = 1 := by kernel_rfl

/-- The byte in a cell. -/
def byteOf : Value → UInt8 | .int _ n => UInt8.ofNat n.toNat | _ => 0

theorem open_arr {H : Type} {enc : TypeId × Value → H} {w : World} {r : Reach} {b0 base : Nat} {spare : Nat → Bool} {held : Bool} {v : Value} {d : DataW H} {p : List MemPlace}
    (hv : Value.okWide Try.prog w r b0 22 v) (h : DataW.Trod enc Try.prog w base spare held 22 v d p) : ∃ l cs, v = .agg cs ∧ IsArr l cs := by
  simp only [Value.okWide, Try.underlying22] at hv
  obtain ⟨cs, rfl, hs, _⟩ := hv
  rw [cells22] at hs
  obtain ⟨fuel, hf⟩ := h
  obtain ⟨xs, m, _, _, hl, hx, hi⟩ := DataW.trod_array Try.underlying22 hf
  have hc : ∀ i (h : i < 32), ∃ n, cs[i]'(by omega) = .int .u8 n ∧ 0 ≤ n ∧ n ≤ 255 := fun i h => by
    have h1 := hi i h
    rw [cells5, List.getElem?_eq_getElem (by omega)] at h1
    obtain ⟨n, hn, _, hw⟩ := DataW.trod_int Try.underlying5 h1
    have hb := bounds_u8 hw
    refine ⟨n, ?_, hb⟩
    have h2 := congrArg List.head? hn
    simp [List.head?_take, Value.cells] at h2
    rw [Array.getElem?_eq_getElem (by omega)] at h2
    exact Option.some.inj h2
  refine ⟨cs.toList.map byteOf, cs, rfl, by simp [hs], hs, fun i h => ?_⟩
  have h32 : i < 32 := by simp [hs] at h; exact h
  obtain ⟨n, hn, h0, h1⟩ := hc i h32
  rw [Array.getElem?_eq_getElem (by omega), hn]
  simp only [List.getElem_map, Array.getElem_toList, hn, byteOf]
  rw [UInt8.toNat_ofNat']
  congr 2
  omega
end Go.Proofs.Qxb6608534a
