/-
  The plain laws of this seat: lists of bytes, no Go in sight.
-/
import Derived.Lib.HexFns2
namespace Go.Proofs.Qxb6605809aDoor.Pl
open Go.Lib

/-- The sixteen lower-case digits. -/
def digs : List UInt8 := [48, 49, 50, 51, 52, 53, 54, 55, 56, 57, 97, 98, 99, 100, 101, 102]
/-- The place of c among the digits, counted from k; whether it is there. -/
def nibAt : Nat → List UInt8 → UInt8 → Nat × Bool
  | _, [], _ => (0, false)
  | k, d :: r, c => if d = c then (k, true) else nibAt (k + 1) r c
def nib (c : UInt8) : Nat × Bool := nibAt 0 digs c
/-- A lower-case hex digit, by the two ranges. -/
def low (c : UInt8) : Bool := (decide (48 ≤ c.toNat) && decide (c.toNat ≤ 57)) || (decide (97 ≤ c.toNat) && decide (c.toNat ≤ 102))

theorem each {p : UInt8 → Prop} (h : ∀ n, n < 256 → p (UInt8.ofNat n)) (c : UInt8) : p c := by
  have e : UInt8.ofNat c.toNat = c := by simp
  rw [← e]
  exact h _ c.toNat_lt
theorem nib_low (c : UInt8) : (nib c).2 = low c := by
  revert c
  exact each (p := fun c => (nib c).2 = low c) (by decide +kernel)
theorem nib_v (c : UInt8) : low c = true → Hx.v c = (nib c).1 := by
  revert c
  exact each (p := fun c => low c = true → Hx.v c = (nib c).1) (by decide +kernel)
theorem nib_le (c : UInt8) : (nib c).1 ≤ 15 := by
  revert c
  exact each (p := fun c => (nib c).1 ≤ 15) (by decide +kernel)

theorem drop_cons {l : List UInt8} {k : Nat} (h : k < l.length) : l.drop k = l[k] :: l.drop (k + 1) := List.drop_eq_getElem_cons h

theorem nib_hit {l : List UInt8} {k : Nat} {c : UInt8} (h : k < l.length) (hc : l[k] = c) : nibAt k (l.drop k) c = (k, true) := by
  rw [drop_cons h]; simp [nibAt, hc]
theorem nib_miss {l : List UInt8} {k : Nat} {c : UInt8} (h : k < l.length) (hc : l[k] ≠ c) : nibAt k (l.drop k) c = nibAt (k + 1) (l.drop (k + 1)) c := by
  rw [drop_cons h]; simp [nibAt, hc]
theorem nib_end {l : List UInt8} {k : Nat} {c : UInt8} (h : l.length ≤ k) : nibAt k (l.drop k) c = (0, false) := by
  rw [List.drop_eq_nil_of_le h]; rfl

def allLow : List UInt8 → Bool
  | [] => true
  | c :: r => if low c = true then allLow r else false
theorem all_hit {l : List UInt8} {k : Nat} (h : k < l.length) (hc : low l[k] = true) : allLow (l.drop k) = allLow (l.drop (k + 1)) := by
  rw [drop_cons h]; simp [allLow, hc]
theorem all_miss {l : List UInt8} {k : Nat} (h : k < l.length) (hc : low l[k] = false) : allLow (l.drop k) = false := by
  rw [drop_cons h]; simp [allLow, hc]
theorem all_end {l : List UInt8} {k : Nat} (h : l.length ≤ k) : allLow (l.drop k) = true := by
  rw [List.drop_eq_nil_of_le h]; rfl
theorem all_at {l : List UInt8} (h : allLow l = true) {k : Nat} (hk : k < l.length) : low l[k] = true := by
  induction l generalizing k with
  | nil => simp at hk
  | cons c r ih =>
    simp only [allLow] at h
    by_cases hc : low c = true
    · rw [if_pos hc] at h
      cases k with
      | zero => simpa using hc
      | succ k => simpa using ih h (by simpa using hk)
    · rw [if_neg hc] at h; cases h

/-- The pairs decoded, by the model's nibbles. -/
def pairs : List UInt8 → List UInt8
  | p :: q :: t => UInt8.ofNat ((nib p).1 * 16 + (nib q).1) :: pairs t
  | _ => []
def ends (l : List UInt8) : Hx.Out := if l.length % 2 = 1 then .odd else .ok

theorem decode_pairs : ∀ l : List UInt8, allLow l = true → Hx.decode l = (pairs l, ends l)
  | [], _ => by rw [Hx.decode_nil]; rfl
  | [c], h => by
    have hc : low c = true := by simp only [allLow] at h; split at h <;> simp_all
    have hv := nib_v c hc
    have hl := nib_le c
    rw [Hx.decode_one, if_neg (by omega)]
    rfl
  | p :: q :: t, h => by
    have hp : low p = true := all_at (l := p :: q :: t) h (k := 0) (by simp)
    have hq : low q = true := all_at (l := p :: q :: t) h (k := 1) (by simp)
    have ht : allLow t = true := by simpa [allLow, hp, hq] using h
    have ih := decode_pairs t ht
    have v1 := nib_v p hp
    have v2 := nib_v q hq
    have l1 := nib_le p
    have l2 := nib_le q
    rw [Hx.decode_two, if_neg (by omega), if_neg (by omega), ih, v1, v2]
    have e : (p :: q :: t).length % 2 = t.length % 2 := by simp only [List.length_cons]; omega
    simp only [pairs, ends, e]

theorem pairs_length : ∀ l : List UInt8, (pairs l).length = l.length / 2
  | [] => rfl
  | [_] => by simp [pairs]
  | p :: q :: t => by
    have := pairs_length t
    simp only [pairs, List.length_cons]
    omega
theorem pairs_at : ∀ (l : List UInt8) (k : Nat) (h : 2 * k + 1 < l.length), (pairs l)[k]? = some (UInt8.ofNat ((nib (l[2 * k]'(by omega))).1 * 16 + (nib (l[2 * k + 1]'h)).1))
  | [], _, h => by simp at h
  | [_], _, h => by simp at h
  | p :: q :: t, 0, _ => by simp [pairs]
  | p :: q :: t, k + 1, h => by
    have := pairs_at t k (by simp at h; omega)
    simp only [pairs, List.getElem?_cons_succ, this]
    rfl

/-- What the k-th cell of the model's row holds: the number of the pair. -/
theorem pair_num (a b : Nat) (ha : a ≤ 15) (hb : b ≤ 15) : (UInt8.ofNat (a * 16 + b)).toNat = a * 16 + b := by
  rw [UInt8.toNat_ofNat_of_lt']
  show a * 16 + b < 256
  omega
end Go.Proofs.Qxb6605809aDoor.Pl
