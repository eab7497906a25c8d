/-
  The plain laws of this seat: varints, little-endian words, records. No Go in sight.
-/
import Derived.Lib.Varint
import Derived.Lib.VarintMem
import Derived.Lib.Endian
import Derived.Lib.EndianMore
import Derived.Laws.BitsAllLaws
import Derived.Laws.Bits64
namespace Go.Proofs.Qxb6605921a.Pl
open Go.Lib

/-- A protobuf key: the field's number times eight, plus one, in 64 bits. -/
def key (f : Int) : Nat := (f % 18446744073709551616 * 8 % 18446744073709551616 + 1).toNat
/-- One record: the key's varint, the double's eight bytes. -/
def recOf (f : Int) (d : Nat) : List UInt8 := uvarint (key f) ++ Lib.leBytes 8 d

theorem key_int (f : Int) : ((key f : Nat) : Int) = f % 18446744073709551616 * 8 % 18446744073709551616 + 1 := by unfold key; omega
theorem key_lt (f : Int) : key f < 18446744073709551616 := by have := key_int f; omega
theorem key_or (f : Int) : bits BinOp.or IntKind.u64 (IntKind.u64.wrap (IntKind.u64.wrap f * 8)) 1 = (key f : Int) := by
  rw [IntKind.wrap_u64, IntKind.wrap_u64, key_int]
  have e : f % 18446744073709551616 * 8 % 18446744073709551616 = (((f % 18446744073709551616 * 8 % 18446744073709551616).toNat : Nat) : Int) := by omega
  have hm : (f % 18446744073709551616 * 8 % 18446744073709551616).toNat % 2 ^ 3 = 0 := by omega
  have hl : (f % 18446744073709551616 * 8 % 18446744073709551616).toNat < 18446744073709551616 := by omega
  rw [e]
  generalize (f % 18446744073709551616 * 8 % 18446744073709551616).toNat = x at hm hl
  have h := u64_or_nat x 1 hl (by omega)
  rw [nat_join 3 x 1 hm (by omega)] at h
  rw [show (1 : Int) = ((1 : Nat) : Int) from rfl, h]
  omega
theorem key_add (f : Int) : IntKind.u64.wrap (IntKind.u64.wrap (IntKind.u64.wrap f * 8) + 1) = (key f : Int) := by
  rw [IntKind.wrap_u64, IntKind.wrap_u64, IntKind.wrap_u64, key_int]
  omega
theorem key_small (f : Int) (h1 : 1 ≤ f) (h2 : f ≤ 536870911) : ((key f : Nat) : Int) = f * 8 + 1 := by rw [key_int]; omega

/-! ### How long a varint is -/
def vlen (k : Nat) : Nat :=
  if k < 128 then 1 else if k < 16384 then 2 else if k < 2097152 then 3 else if k < 268435456 then 4 else if k < 34359738368 then 5 else
  if k < 4398046511104 then 6 else if k < 562949953421312 then 7 else if k < 72057594037927936 then 8 else if k < 9223372036854775808 then 9 else 10
theorem len1 {x : Nat} (h : x < 128) : (uvarint x).length = 1 := by rw [uvarint_small h]; rfl
theorem len_step {x n : Nat} (h : 128 ≤ x) (hn : (uvarint (x / 128)).length = n) : (uvarint x).length = n + 1 := by rw [uvarint_big h, List.length_cons, hn]
theorem len2 {x : Nat} (h : 128 ≤ x) (h2 : x < 16384) : (uvarint x).length = 2 := len_step h (len1 (by omega))
theorem len3 {x : Nat} (h : 16384 ≤ x) (h2 : x < 2097152) : (uvarint x).length = 3 := len_step (by omega) (len2 (by omega) (by omega))
theorem len4 {x : Nat} (h : 2097152 ≤ x) (h2 : x < 268435456) : (uvarint x).length = 4 := len_step (by omega) (len3 (by omega) (by omega))
theorem len5 {x : Nat} (h : 268435456 ≤ x) (h2 : x < 34359738368) : (uvarint x).length = 5 := len_step (by omega) (len4 (by omega) (by omega))
theorem len6 {x : Nat} (h : 34359738368 ≤ x) (h2 : x < 4398046511104) : (uvarint x).length = 6 := len_step (by omega) (len5 (by omega) (by omega))
theorem len7 {x : Nat} (h : 4398046511104 ≤ x) (h2 : x < 562949953421312) : (uvarint x).length = 7 := len_step (by omega) (len6 (by omega) (by omega))
theorem len8 {x : Nat} (h : 562949953421312 ≤ x) (h2 : x < 72057594037927936) : (uvarint x).length = 8 := len_step (by omega) (len7 (by omega) (by omega))
theorem len9 {x : Nat} (h : 72057594037927936 ≤ x) (h2 : x < 9223372036854775808) : (uvarint x).length = 9 := len_step (by omega) (len8 (by omega) (by omega))
theorem len10 {x : Nat} (h : 9223372036854775808 ≤ x) (h2 : x < 18446744073709551616) : (uvarint x).length = 10 := len_step (by omega) (len9 (by omega) (by omega))
theorem vlen_eq {x : Nat} (h : x < 18446744073709551616) : (uvarint x).length = vlen x := by
  unfold vlen
  by_cases a1 : x < 128
  · rw [if_pos a1]; exact len1 a1
  rw [if_neg a1]
  by_cases a2 : x < 16384
  · rw [if_pos a2]; exact len2 (by omega) a2
  rw [if_neg a2]
  by_cases a3 : x < 2097152
  · rw [if_pos a3]; exact len3 (by omega) a3
  rw [if_neg a3]
  by_cases a4 : x < 268435456
  · rw [if_pos a4]; exact len4 (by omega) a4
  rw [if_neg a4]
  by_cases a5 : x < 34359738368
  · rw [if_pos a5]; exact len5 (by omega) a5
  rw [if_neg a5]
  by_cases a6 : x < 4398046511104
  · rw [if_pos a6]; exact len6 (by omega) a6
  rw [if_neg a6]
  by_cases a7 : x < 562949953421312
  · rw [if_pos a7]; exact len7 (by omega) a7
  rw [if_neg a7]
  by_cases a8 : x < 72057594037927936
  · rw [if_pos a8]; exact len8 (by omega) a8
  rw [if_neg a8]
  by_cases a9 : x < 9223372036854775808
  · rw [if_pos a9]; exact len9 (by omega) a9
  rw [if_neg a9]
  exact len10 (by omega) h
theorem rec_length (f : Int) (d : Nat) : (recOf f d).length = vlen (key f) + 8 := by
  unfold recOf
  rw [List.length_append, Lib.leBytes_length, vlen_eq (key_lt f)]
theorem vlen_le (k : Nat) : 1 ≤ vlen k ∧ vlen k ≤ 10 := by
  unfold vlen
  repeat' split
  all_goals omega
theorem vlen_small {k : Nat} (h : k < 34359738368) : vlen k ≤ 5 := by
  unfold vlen
  repeat' split
  all_goals omega
/-- Two doubles give the same record just where their bits agree. -/
theorem rec_inj {f : Int} {d d2 : Nat} (h : d < 18446744073709551616) (h2 : d2 < 18446744073709551616) : recOf f d = recOf f d2 ↔ d = d2 := by
  constructor
  · intro e
    have e2 := List.append_cancel_left e
    have a := leNat_leBytes 8 d (by simpa using h)
    have b := leNat_leBytes 8 d2 (by simpa using h2)
    rw [← a, ← b, e2]
  · rintro rfl; rfl
end Go.Proofs.Qxb6605921a.Pl
