/- The contract of encoding/hex.EncodeToString, laid at this program by the kit's lay-shelf and lay-plain tools (one laying, one application). -/
import Derived.Shelf.Hex.Encode
import Derived.Shelf.Hex.More
import Derived.Test.Qxb6608534aProg
namespace Go.Proofs.Qxb6608534a
open Go.Shelf
def laysHex_ren : Go.Shelf.Ren := ⟨fun | 39 => 10 | 41 => 11 | 40 => 12 | n => n, fun | 30 => 24 | 9 => 9 | 3 => 3 | 0 => 0 | 5 => 5 | 46 => 32 | n => n, fun | n => n⟩
theorem laysHex : Go.Proofs.Lays.ph39 Try.prog laysHex_ren := {
  mixed := by kernel_rfl
  f39 := Try.func10.trans (congrArg some (by kernel_rfl))
  f40 := Try.func12.trans (congrArg some (by kernel_rfl))
  f41 := Try.func11.trans (congrArg some (by kernel_rfl))
  t0 := Try.underlying0
  a0 := Try.isAgg0
  z0 := Try.sizeOf0
  v0 := Try.zeroValue0
  t3 := Try.underlying3
  a3 := Try.isAgg3
  z3 := Try.sizeOf3
  v3 := Try.zeroValue3
  t5 := Try.underlying5
  a5 := Try.isAgg5
  z5 := Try.sizeOf5
  v5 := Try.zeroValue5
  t9 := Try.underlying9
  a9 := Try.isAgg9
  z9 := Try.sizeOf9
  v9 := Try.zeroValue9
  t30 := Try.underlying24
  a30 := Try.isAgg24
  z30 := Try.sizeOf24
  v30 := Try.zeroValue24
  t46 := Try.underlying32
  a46 := Try.isAgg32
  z46 := Try.sizeOf32
  v46 := Try.zeroValue32
  info5 := by kernel_rfl }
open Go.RowKit Go.Lib in
/-- encoding/hex.EncodeToString, the slice's content held as bytes. -/
theorem hex_bytes (bs os cs : Nat) (l : List UInt8) (w : World) (hsrc : ∀ i (h : i < l.length), w.cell? ⟨bs, os + i, none⟩ = some (.int .u8 ((l[i]'h).toNat : Int))) (hb : bs < w.heap.size) (hbig : 2 * l.length ≤ 281474976710656) :
    Calls Try.prog 10 #[.slice (some ⟨bs, os, none⟩) l.length cs] w fun e w' => e = .returned (.string ⟨(Hx.encode l).toArray⟩) ∧ Below w.heap.size w w' := Any.hex_EncodeToString_bytes laysHex bs os cs l w hsrc hb hbig
end Go.Proofs.Qxb6608534a
