/-
  The plain laws of this seat: sets of 0..255 in four words. No Go in sight.
-/
import Derived.Laws.BitsAllLaws
import Derived.Laws.Bits64
namespace Go.Proofs.Qxb6605821a.Pl

/-- v is in the set that the words a hold. -/
def mem (a : Nat → Nat) (v : Nat) : Bool := (a (v / 64)).testBit (v % 64)
/-- v put in. -/
def addW (a : Nat → Nat) (v : Nat) : Nat → Nat := fun j => if j = v / 64 then a j ||| 2 ^ (v % 64) else a j
def Words (a : Nat → Nat) : Prop := ∀ j, a j < 18446744073709551616

theorem words_zero : Words (fun _ => 0) := fun _ => by show 0 < 18446744073709551616; omega
theorem mem_zero (v : Nat) : mem (fun _ => 0) v = false := by simp [mem]
theorem two64 : (18446744073709551616 : Nat) = 2 ^ 64 := by decide
theorem pow_lt (v : Nat) : 2 ^ (v % 64) < 18446744073709551616 := by
  rw [two64]; exact Nat.pow_lt_pow_right (by omega) (by omega)
theorem words_add {a : Nat → Nat} (h : Words a) (v : Nat) : Words (addW a v) := by
  intro j
  unfold addW
  split
  · have h1 := h j
    have h2 := pow_lt v
    rw [two64] at *
    exact Nat.or_lt_two_pow h1 h2
  · exact h j
theorem mem_add (a : Nat → Nat) (u v : Nat) : mem (addW a u) v = (mem a v || decide (v = u)) := by
  unfold mem addW
  by_cases h : v / 64 = u / 64
  · rw [if_pos h, Nat.testBit_or, Nat.testBit_two_pow]
    congr 1
    rw [Bool.eq_iff_iff]
    simp only [decide_eq_true_eq]
    omega
  · rw [if_neg h]
    have : ¬ v = u := by rintro rfl; exact h rfl
    simp [this]
/-- Four words are told by their members. -/
theorem words_unique {a b : Nat → Nat} (ha : Words a) (hb : Words b) (h : ∀ v, v < 256 → mem a v = mem b v) : ∀ j, j < 4 → a j = b j := by
  intro j hj
  apply Nat.eq_of_testBit_eq
  intro i
  by_cases hi : i < 64
  · have := h (64 * j + i) (by omega)
    unfold mem at this
    rwa [show (64 * j + i) / 64 = j by omega, show (64 * j + i) % 64 = i by omega] at this
  · have e : 18446744073709551616 ≤ 2 ^ i := by rw [two64]; exact Nat.pow_le_pow_right (by omega) (by omega)
    rw [Nat.testBit_lt_two_pow (Nat.lt_of_lt_of_le (ha j) e), Nat.testBit_lt_two_pow (Nat.lt_of_lt_of_le (hb j) e)]

/-- The values from f to l, s apart. -/
def Mem (f l s : Int) (v : Nat) : Prop := ∃ i : Nat, (v : Int) = f + i * s ∧ (v : Int) ≤ l
/-- .. the first k of them. -/
def MemTo (f s : Int) (k : Nat) (v : Nat) : Prop := ∃ i : Nat, i < k ∧ (v : Int) = f + i * s
structure IsSet (a : Nat → Nat) (f l s : Int) : Prop where
  words : Words a
  mem : ∀ v, v < 256 → (mem a v = true ↔ Mem f l s v)

theorem memTo_zero (f s : Int) (v : Nat) : ¬ MemTo f s 0 v := by rintro ⟨i, h, _⟩; omega
theorem memTo_succ (f s : Int) (k v : Nat) : MemTo f s (k + 1) v ↔ MemTo f s k v ∨ (v : Int) = f + k * s := by
  constructor
  · rintro ⟨i, h, e⟩
    by_cases hi : i = k
    · subst hi; exact Or.inr e
    · exact Or.inl ⟨i, by omega, e⟩
  · rintro (⟨i, h, e⟩ | e)
    · exact ⟨i, by omega, e⟩
    · exact ⟨k, by omega, e⟩
theorem mem_of_to {f l s : Int} {k : Nat} (hs : 1 ≤ s) (hout : l < f + k * s) (hin : k = 0 ∨ f + (k : Int) * s - s ≤ l) (v : Nat) : MemTo f s k v ↔ Mem f l s v := by
  constructor
  · rintro ⟨i, h, e⟩
    refine ⟨i, e, ?_⟩
    rcases hin with rfl | hin
    · omega
    · have : (i : Int) * s ≤ ((k : Int) - 1) * s := Int.mul_le_mul_of_nonneg_right (by omega) (by omega)
      rw [Int.sub_mul] at this
      omega
  · rintro ⟨i, e, hl⟩
    refine ⟨i, ?_, e⟩
    apply Nat.lt_of_not_le
    intro hk
    have : (k : Int) * s ≤ (i : Int) * s := Int.mul_le_mul_of_nonneg_right (by omega) (by omega)
    omega
/-- The law's own test. -/
theorem mem_iff {f l s : Int} (hs : 1 ≤ s) (v : Nat) : Mem f l s v ↔ f ≤ v ∧ (v : Int) ≤ l ∧ ((v : Int) - f) % s = 0 := by
  constructor
  · rintro ⟨i, e, hl⟩
    have h0 : 0 ≤ (i : Int) * s := Int.mul_nonneg (by omega) (by omega)
    refine ⟨by omega, hl, ?_⟩
    rw [show (v : Int) - f = i * s by omega]
    exact Int.mul_emod_left _ _
  · rintro ⟨h1, h2, h3⟩
    obtain ⟨c, hc⟩ := Int.dvd_of_emod_eq_zero h3
    have h0 : 0 ≤ c := by
      refine Int.not_lt.1 fun hneg => ?_
      have : s * c ≤ s * (-1) := Int.mul_le_mul_of_nonneg_left (by omega) (by omega)
      omega
    obtain ⟨i, rfl⟩ := Int.eq_ofNat_of_zero_le h0
    exact ⟨i, by rw [Int.mul_comm] at hc; omega, h2⟩

/-! ### The words as the walk spells them -/
theorem wrap_pow (v : Nat) : IntKind.u64.wrap ((2 : Int) ^ (v % 64)) = ((2 ^ (v % 64) : Nat) : Int) := by
  have h := pow_lt v
  have e : ((2 ^ (v % 64) : Nat) : Int) = (2 : Int) ^ (v % 64) := by push_cast; rfl
  rw [← e, IntKind.wrap_u64]
  generalize 2 ^ (v % 64) = p at *
  omega
theorem or_word {a : Nat → Nat} (h : Words a) (v : Nat) : bits BinOp.or IntKind.u64 (a (v / 64) : Int) (IntKind.u64.wrap ((2 : Int) ^ (v % 64))) = ((addW a v (v / 64) : Nat) : Int) := by
  rw [wrap_pow, u64_or_nat _ _ (h _) (pow_lt v)]
  simp [addW]
theorem bit_word (x i : Nat) (hx : x < 18446744073709551616) : (bits BinOp.and IntKind.u64 ((x : Int) / 2 ^ i) 1 == 1) = x.testBit i := by
  have e : (x : Int) / 2 ^ i = ((x / 2 ^ i : Nat) : Int) := by push_cast; rfl
  have hlt : x / 2 ^ i < 18446744073709551616 := Nat.lt_of_le_of_lt (Nat.div_le_self _ _) hx
  have h := u64_and_nat (x / 2 ^ i) 1 hlt (by omega)
  rw [e, show (1 : Int) = ((1 : Nat) : Int) from rfl, h, nat_mask1, Nat.testBit_eq_decide_div_mod_eq, Bool.eq_iff_iff]
  simp only [beq_iff_eq, decide_eq_true_eq]
  omega
end Go.Proofs.Qxb6605821a.Pl
