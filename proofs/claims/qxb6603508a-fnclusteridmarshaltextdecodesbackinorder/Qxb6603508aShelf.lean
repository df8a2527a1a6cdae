/- THE SHELF's CONTRACT FOR encoding.hex EncodeToString, laid at this program (by the shelf's tools; cut down to what is used). -/
import Derived.Ground.PaProg
import Derived.Shelf.Hex.More
import Derived.Test.Qxb6603508aProg
namespace Go.Proofs
open Go.Shelf
def Try.laysPah39_ren : Go.Shelf.Ren := ⟨fun | 39 => 11 | 41 => 13 | 40 => 14 | n => n, fun | 30 => 24 | 9 => 9 | 3 => 3 | 0 => 0 | 5 => 5 | 46 => 30 | n => n, fun | n => n⟩
theorem Try.laysPah39 : Go.Proofs.Lays.ph39 Try.prog Try.laysPah39_ren := {
  mixed := by kernel_rfl
  f39 := Try.func11.trans (congrArg some (by kernel_rfl))
  f40 := Try.func14.trans (congrArg some (by kernel_rfl))
  f41 := Try.func13.trans (congrArg some (by kernel_rfl))
  t0 := Try.underlying0
  a0 := Try.isAgg0
  z0 := Try.sizeOf0
  v0 := Try.zeroValue0
  t3 := Try.underlying3
  a3 := Try.isAgg3
  z3 := Try.sizeOf3
  v3 := Try.zeroValue3
  t5 := Try.underlying5
  a5 := Try.isAgg5
  z5 := Try.sizeOf5
  v5 := Try.zeroValue5
  t9 := Try.underlying9
  a9 := Try.isAgg9
  z9 := Try.sizeOf9
  v9 := Try.zeroValue9
  t30 := Try.underlying24
  a30 := Try.isAgg24
  z30 := Try.sizeOf24
  v30 := Try.zeroValue24
  t46 := Try.underlying30
  a46 := Try.isAgg30
  z46 := Try.sizeOf30
  v46 := Try.zeroValue30
  info5 := by kernel_rfl }
open Go.RowKit Go.Lib in
theorem Try.hex_EncodeToString_bytes (bs os cs : Nat) (l : List UInt8) (w : World) (hsrc : ∀ i (h : i < l.length), w.cell? ⟨bs, os + i, none⟩ = some (.int .u8 ((l[i]'h).toNat : Int))) (hb : bs < w.heap.size) (hbig : 2 * l.length ≤ 281474976710656) :
    Calls Try.prog 11 #[.slice (some ⟨bs, os, none⟩) l.length cs] w fun e w' => e = .returned (.string ⟨(Hx.encode l).toArray⟩) ∧ Below w.heap.size w w' := Any.hex_EncodeToString_bytes Try.laysPah39 bs os cs l w hsrc hb hbig
end Go.Proofs
