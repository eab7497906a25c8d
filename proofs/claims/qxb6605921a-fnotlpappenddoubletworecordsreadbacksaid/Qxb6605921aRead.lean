/-
  The plain laws of the readers. No Go in sight.
-/
import Derived.Test.Qxb6605921aPlain
namespace Go.Proofs.Qxb6605921a.Pl
open Go.Lib

/-- A text that lies at place p of a longer one. -/
theorem at_drop {L t r : List UInt8} {p i : Nat} (h : L.drop p = t ++ r) (hi : i < t.length) : L[p + i]? = t[i]? := by
  rw [← List.getElem?_drop, h, List.getElem?_append_left hi]
theorem drop_len {L t r : List UInt8} {p : Nat} (h : L.drop p = t ++ r) (ht : 0 < t.length) : p + t.length ≤ L.length := by
  have := congrArg List.length h
  rw [List.length_drop, List.length_append] at this
  omega

/-! ### The varint's reader -/
theorem pow_pos' (s : Nat) : 0 < 2 ^ s := Nat.two_pow_pos s
/-- The state behind i bytes: the low bits, and what is left. -/
structure St (x i sh acc y : Nat) (pre : List UInt8) : Prop where
  hsh : sh = 7 * i
  sum : x = acc + 2 ^ sh * y
  low : acc < 2 ^ sh
  split : uvarint x = pre ++ uvarint y
  len : pre.length = i
  pos : i = 0 ∨ 0 < y

theorem St.start (x : Nat) : St x 0 0 0 x [] := ⟨rfl, by simp, by simp, rfl, rfl, Or.inl rfl⟩

theorem St.big {x i sh acc y : Nat} {pre : List UInt8} (h : St x i sh acc y pre) (hx : x < 18446744073709551616) (hy : 128 ≤ y) : i ≤ 8 ∧ sh ≤ 56 := by
  have hs := h.hsh
  have h1 : 2 ^ sh * 128 ≤ 2 ^ sh * y := Nat.mul_le_mul_left _ hy
  have hsum := h.sum
  have h2 : 2 ^ (sh + 7) < 2 ^ 64 := by
    rw [Nat.pow_add]
    have : (2 : Nat) ^ 64 = 18446744073709551616 := by decide
    omega
  have h3 : sh + 7 < 64 := (Nat.pow_lt_pow_iff_right (by omega)).1 h2
  omega
theorem St.last {x i sh acc y : Nat} {pre : List UInt8} (h : St x i sh acc y pre) (hx : x < 18446744073709551616) (hi : i = 9) : y ≤ 1 := by
  have hs := h.hsh
  subst hi
  subst hs
  have hsum := h.sum
  have : (2 : Nat) ^ (7 * 9) = 9223372036854775808 := by decide
  rw [this] at hsum
  omega
theorem St.small {x i sh acc y : Nat} {pre : List UInt8} (h : St x i sh acc y pre) (hx : x < 18446744073709551616) (hi : i ≤ 9) : 2 ^ sh * (y % 128) < 18446744073709551616 ∧ sh ≤ 63 := by
  have hs := h.hsh
  have hsum := h.sum
  have h1 : 2 ^ sh * (y % 128) ≤ 2 ^ sh * y := Nat.mul_le_mul_left _ (Nat.mod_le _ _)
  omega
theorem St.next {x i sh acc y : Nat} {pre : List UInt8} (h : St x i sh acc y pre) (hy : 128 ≤ y) : St x (i + 1) (sh + 7) (acc + 2 ^ sh * (y % 128)) (y / 128) (pre ++ [(y % 128 + 128).toUInt8]) := by
  have hs := h.hsh
  have hsum := h.sum
  have hlt := h.low
  have hy2 : y = 128 * (y / 128) + y % 128 := by omega
  refine ⟨by omega, ?_, ?_, ?_, by rw [List.length_append, h.len]; rfl, Or.inr (by omega)⟩
  · rw [Nat.pow_add, hsum, Nat.mul_assoc, show (2 : Nat) ^ 7 = 128 by decide, Nat.add_assoc, ← Nat.mul_add]
    congr 2
    omega
  · have h1 : 2 ^ sh * (y % 128) ≤ 2 ^ sh * 127 := Nat.mul_le_mul_left _ (by omega)
    rw [Nat.pow_add, show (2 : Nat) ^ 7 = 128 by decide]
    omega
  · rw [h.split, uvarint_big hy, List.append_assoc]; rfl
theorem St.done {x i sh acc y : Nat} {pre : List UInt8} (h : St x i sh acc y pre) (hy : y < 128) : acc + 2 ^ sh * (y % 128) = x ∧ (uvarint x).length = i + 1 := by
  refine ⟨by rw [Nat.mod_eq_of_lt hy]; exact h.sum.symm, ?_⟩
  rw [h.split, List.length_append, h.len, uvarint_small hy]
  rfl
/-- The byte that is read next. -/
theorem St.byte {x i sh acc y : Nat} {pre : List UInt8} (h : St x i sh acc y pre) : (uvarint x)[i]? = some (if 128 ≤ y then y % 128 + 128 else y).toUInt8 := by
  rw [h.split, List.getElem?_append_right (by rw [h.len]; exact Nat.le_refl _), h.len, Nat.sub_self]
  by_cases hy : 128 ≤ y
  · rw [if_pos hy, uvarint_big hy]; rfl
  · rw [if_neg hy, uvarint_small (by omega)]; rfl
theorem St.ilt {x i sh acc y : Nat} {pre : List UInt8} (h : St x i sh acc y pre) : i < (uvarint x).length := by
  rw [h.split, List.length_append, h.len]
  have := uvarint_pos y
  omega

/-- 'acc | m << sh' as the walk spells it. -/
theorem or_shift {acc m sh : Nat} (h1 : acc < 2 ^ sh) (h2 : 2 ^ sh * m < 18446744073709551616) (h3 : acc < 18446744073709551616) :
    bits BinOp.or IntKind.u64 (acc : Int) (IntKind.u64.wrap ((m : Int) * 2 ^ sh)) = ((acc + 2 ^ sh * m : Nat) : Int) := by
  have e : (m : Int) * 2 ^ sh = ((2 ^ sh * m : Nat) : Int) := by rw [Nat.mul_comm]; push_cast; rfl
  rw [e]
  have hw : IntKind.u64.wrap ((2 ^ sh * m : Nat) : Int) = ((2 ^ sh * m : Nat) : Int) := by
    rw [IntKind.wrap_u64]
    generalize 2 ^ sh * m = z at h2
    omega
  rw [hw, u64_or_nat acc (2 ^ sh * m) h3 h2, Nat.or_comm, nat_join sh (2 ^ sh * m) acc (Nat.mul_mod_right _ _) h1]
  rw [Nat.add_comm]

/-! ### The word's reader -/
theorem le_at : ∀ (k v i : Nat), i < k → (Lib.leBytes k v)[i]? = some ((v / 256 ^ i % 256).toUInt8)
  | 0, _, _, h => by omega
  | k + 1, v, 0, _ => by simp [Lib.leBytes]
  | k + 1, v, i + 1, h => by
    have ih := le_at k (v / 256) i (by omega)
    simp only [Lib.leBytes, List.getElem?_cons_succ, ih]
    rw [Nat.div_div_eq_div_mul, Nat.pow_succ, Nat.mul_comm 256]
theorem mod_step (v i : Nat) : v % 2 ^ (8 * i) + 2 ^ (8 * i) * (v / 256 ^ i % 256) = v % 2 ^ (8 * (i + 1)) := by
  have e : (256 : Nat) ^ i = 2 ^ (8 * i) := by rw [show (256 : Nat) = 2 ^ 8 by decide, ← Nat.pow_mul]
  rw [e, show 8 * (i + 1) = 8 * i + 8 by omega, Nat.pow_add, show (2 : Nat) ^ 8 = 256 by decide, Nat.mod_mul]
end Go.Proofs.Qxb6605921a.Pl
