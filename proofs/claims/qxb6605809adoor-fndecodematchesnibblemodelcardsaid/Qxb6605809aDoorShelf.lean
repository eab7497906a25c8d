/-
  encoding/hex.DecodeString's contract of the shelf, laid at this seat's translation (by the kit's lay-shelf and lay-plain; cut to the one contract that the law needs).
-/
import Derived.Shelf.Hex.Decode
import Derived.Test.Qxb6605809aDoorProg
namespace Go.Proofs
open Go.Shelf
def Tryd.laysPah43_ren : Go.Shelf.Ren := ⟨fun | 43 => 14 | 42 => 17 | 44 => 18 | n => n, fun | 9 => 9 | 30 => 23 | 35 => 25 | 3 => 3 | 38 => 41 | 4 => 4 | 0 => 0 | 5 => 5 | 47 => 43 | 46 => 35 | 45 => 46 | n => n, fun | 0 => 0 | n => n⟩
theorem Tryd.laysPah43 : Go.Proofs.Lays.ph43 Tryd.prog Tryd.laysPah43_ren := {
  mixed := by kernel_rfl
  f42 := Tryd.func17.trans (congrArg some (by kernel_rfl))
  f43 := Tryd.func14.trans (congrArg some (by kernel_rfl))
  f44 := Tryd.func18.trans (congrArg some (by kernel_rfl))
  t0 := Tryd.underlying0
  a0 := Tryd.isAgg0
  z0 := Tryd.sizeOf0
  v0 := Tryd.zeroValue0
  t3 := Tryd.underlying3
  a3 := Tryd.isAgg3
  z3 := Tryd.sizeOf3
  v3 := Tryd.zeroValue3
  t4 := Tryd.underlying4
  a4 := Tryd.isAgg4
  z4 := Tryd.sizeOf4
  v4 := Tryd.zeroValue4
  t5 := Tryd.underlying5
  a5 := Tryd.isAgg5
  z5 := Tryd.sizeOf5
  v5 := Tryd.zeroValue5
  t9 := Tryd.underlying9
  a9 := Tryd.isAgg9
  z9 := Tryd.sizeOf9
  v9 := Tryd.zeroValue9
  t30 := Tryd.underlying23
  a30 := Tryd.isAgg23
  z30 := Tryd.sizeOf23
  v30 := Tryd.zeroValue23
  t35 := Tryd.underlying25
  a35 := Tryd.isAgg25
  z35 := Tryd.sizeOf25
  v35 := Tryd.zeroValue25
  t38 := Tryd.underlying41
  a38 := Tryd.isAgg41
  z38 := Tryd.sizeOf41
  v38 := Tryd.zeroValue41
  t45 := Tryd.underlying46
  a45 := Tryd.isAgg46
  z45 := Tryd.sizeOf46
  v45 := Tryd.zeroValue46
  t46 := Tryd.underlying35
  a46 := Tryd.isAgg35
  z46 := Tryd.sizeOf35
  v46 := Tryd.zeroValue35
  t47 := Tryd.underlying43
  a47 := Tryd.isAgg43
  z47 := Tryd.sizeOf43
  v47 := Tryd.zeroValue43
  g0 := by kernel_rfl
  info5 := by kernel_rfl }
open Go.RowKit Go.Lib in
/-- encoding/hex.DecodeString, FOR EVERY s: "DecodeString returns the bytes represented by the hexadecimal string s. DecodeString expects that src contains only hexadecimal characters and that src has even length. If the input is malformed, DecodeString returns the bytes decoded before the error.": 'ev': what the variable encoding/hex.ErrLength holds. IT RETURNS (a slice at the head of A NEW BLOCK, the first that the call lays, of as many bytes as 'Hx.decode s' gives, capacity len(s) / 2; the error by how the decoding ends: nil ¦ InvalidByteError(c) ¦ ErrLength's content); THAT BLOCK IS A ROW WHICH HOLDS THOSE BYTES ('Hx.rowP'); what was there before the call is as it was ('Below'). IT ASKS len(s) ≤ 2^48. (LAID: no walk: one application.) -/
theorem Tryd.hex_DecodeString (s : ByteArray) (w : World) (ev : Value) (hE : w.cell? ⟨0, 0, none⟩ = some ev) (hbig : s.size ≤ 281474976710656) :
    Calls Tryd.prog 14 #[.string s] w fun e w' =>
      e = .returned (.tuple #[.slice (some ⟨w.heap.size, 0, none⟩) (Hx.decode s.data.toList).1.length (s.size / 2), Hx.errVal 43 ev (Hx.decode s.data.toList).2]) ∧
      w'.rowIs w.heap.size 5 (s.size / 2) (Hx.rowP (fun _ => .int .u8 0) 0 (Hx.decode s.data.toList).1) ∧ Below w.heap.size w w' := Any.hex_DecodeString Tryd.laysPah43 s w ev hE hbig
end Go.Proofs
