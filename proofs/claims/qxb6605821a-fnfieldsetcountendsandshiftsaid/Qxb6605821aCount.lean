/-
  The plain law of the second statement: counting a set's members.
-/
import Derived.Test.Qxb6605821aPlain
namespace Go.Proofs.Qxb6605821a.Pl

/-- One round: the count, the least, the greatest so far. -/
def stNext (b : Bool) (v : Int) (x : Int × Int × Int) : Int × Int × Int :=
  if b = true then (x.1 + 1, (if x.2.1 < 0 then v else x.2.1), v) else x
def st (m : Nat → Bool) : Nat → Int × Int × Int
  | 0 => (0, -1, -1)
  | v + 1 => stNext (m v) v (st m v)

theorem st_bounds (m : Nat → Bool) : ∀ v, 0 ≤ (st m v).1 ∧ (st m v).1 ≤ v ∧ -1 ≤ (st m v).2.1 ∧ (st m v).2.1 ≤ v ∧ -1 ≤ (st m v).2.2 ∧ (st m v).2.2 ≤ v
  | 0 => by simp [st]
  | v + 1 => by
    have ih := st_bounds m v
    simp only [st, stNext]
    split
    · refine ⟨?_, ?_, ?_, ?_, ?_, ?_⟩ <;> (simp only; first | omega | (split <;> omega))
    · omega

theorem st_no {m : Nat → Bool} {v : Nat} {x y z : Int} (h : st m v = (x, y, z)) (hm : m v = false) : st m (v + 1) = (x, y, z) := by
  simp [st, stNext, hm, h]
theorem st_yes1 {m : Nat → Bool} {v : Nat} {x y z : Int} (h : st m v = (x, y, z)) (hm : m v = true) (hy : y < 0) : st m (v + 1) = (x + 1, (v : Int), (v : Int)) := by
  simp [st, stNext, hm, h, hy]
theorem st_yes2 {m : Nat → Bool} {v : Nat} {x y z : Int} (h : st m v = (x, y, z)) (hm : m v = true) (hy : ¬ y < 0) : st m (v + 1) = (x + 1, y, (v : Int)) := by
  simp [st, stNext, hm, h, hy]

/-- Nothing is in an empty span. -/
theorem st_none {m : Nat → Bool} : ∀ n, (∀ v, v < n → m v = false) → st m n = (0, -1, -1)
  | 0, _ => rfl
  | n + 1, h => by
    simp only [st, st_none n (fun v hv => h v (by omega)), h n (by omega), stNext]
    simp

/-- c members lie below v. -/
def At (f s n : Int) (c : Nat) (v : Nat) : Prop := (∀ i : Nat, i < c → f + i * s < v) ∧ ((c : Int) < n → (v : Int) ≤ f + c * s) ∧ (c : Int) ≤ n

theorem st_at {m : Nat → Bool} {f s n : Int} (hf : 0 ≤ f) (hs : 1 ≤ s) (hn : 0 ≤ n) (hm : ∀ v, v < 256 → (m v = true ↔ ∃ i : Nat, (v : Int) = f + i * s ∧ (i : Int) < n)) :
    ∀ v, v ≤ 256 → ∃ c : Nat, At f s n c v ∧ st m v = ((c : Int), (if c = 0 then -1 else f), (if c = 0 then -1 else f + ((c : Int) - 1) * s))
  | 0, _ => ⟨0, ⟨fun i hi => by omega, fun _ => by simp; omega, by omega⟩, by simp [st]⟩
  | v + 1, hv => by
    obtain ⟨c, ⟨h1, h2, h3⟩, e⟩ := st_at hf hs hn hm v (by omega)
    have hmv := hm v (by omega)
    cases hb : m v with
    | true =>
      obtain ⟨i, ei, hi⟩ := hmv.1 hb
      have hic : c ≤ i := by
        apply Nat.le_of_not_lt
        intro hlt
        have := h1 i hlt
        omega
      have hcn : (c : Int) < n := by omega
      have hle := h2 hcn
      have hmul : (c : Int) * s ≤ (i : Int) * s := Int.mul_le_mul_of_nonneg_right (by omega) (by omega)
      have hvc : (v : Int) = f + c * s := by omega
      refine ⟨c + 1, ⟨?_, ?_, by omega⟩, ?_⟩
      · intro j hj
        have : (j : Int) * s ≤ (c : Int) * s := Int.mul_le_mul_of_nonneg_right (by omega) (by omega)
        omega
      · intro _
        have e2 : ((c + 1 : Nat) : Int) * s = (c : Int) * s + s := by rw [show ((c + 1 : Nat) : Int) = (c : Int) + 1 from rfl, Int.add_mul, Int.one_mul]
        omega
      · simp only [st, hb, stNext, e]
        by_cases hc0 : c = 0
        · subst hc0
          simp at hvc
          simp [hvc]
        · have hcn0 : ¬ c + 1 = 0 := by omega
          have hlf : ¬ f < 0 := by omega
          simp only [hc0, hcn0, hlf, if_true, if_false]
          rw [hvc]
          simp
    | false =>
      refine ⟨c, ⟨fun i hi => by have := h1 i hi; omega, fun hc => ?_, h3⟩, ?_⟩
      · have hle := h2 hc
        have hne : ¬ (v : Int) = f + c * s := fun he => by
          have := hmv.2 ⟨c, he, hc⟩
          rw [hb] at this
          cases this
        omega
      · simp only [st, hb, stNext, e]
        simp

/-- The law: as many as the span holds; the least; the greatest. -/
theorem st_law {A : Nat → Nat} {f l s q : Int} (h : IsSet A f l s) (hf : 0 ≤ f) (hfl : f ≤ l) (hl : l ≤ 255) (hs : 1 ≤ s) (hq : q = (l - f) / s) :
    st (mem A) 256 = (q + 1, f, f + q * s) := by
  have hs0 : 0 < s := by omega
  have q0 : 0 ≤ q := by rw [hq]; exact Int.ediv_nonneg (by omega) (by omega)
  have hqs : q * s ≤ l - f := by rw [hq]; exact Int.ediv_mul_le _ (by omega)
  have hm : ∀ v, v < 256 → (mem A v = true ↔ ∃ i : Nat, (v : Int) = f + i * s ∧ (i : Int) < q + 1) := by
    intro v hv
    rw [h.mem v hv]
    constructor
    · rintro ⟨i, e, hl⟩
      refine ⟨i, e, ?_⟩
      have : (i : Int) ≤ (l - f) / s := (Int.le_ediv_iff_mul_le hs0).2 (by omega)
      omega
    · rintro ⟨i, e, hi⟩
      refine ⟨i, e, ?_⟩
      have : (i : Int) * s ≤ q * s := Int.mul_le_mul_of_nonneg_right (by omega) (by omega)
      omega
  obtain ⟨c, ⟨h1, h2, h3⟩, e⟩ := st_at hf hs (by omega) hm 256 (by omega)
  have hc : (c : Int) = q + 1 := by
    have : ¬ (c : Int) < q + 1 := fun hlt => by
      have := h2 hlt
      have hmul : (c : Int) * s ≤ q * s := Int.mul_le_mul_of_nonneg_right (by omega) (by omega)
      omega
    omega
  rw [e, if_neg (by omega), if_neg (by omega), hc]
  simp

/-- Lowering the base by one moves every member up by one. -/
theorem mem_shift {A U : Nat → Nat} {f l s : Int} (hA : IsSet A f l s) (hU : IsSet U (f + 1) (l + 1) s) {v : Nat} (hv : v < 255) : mem A v = mem U (v + 1) := by
  rw [Bool.eq_iff_iff, hA.mem v (by omega), hU.mem (v + 1) (by omega)]
  constructor
  · rintro ⟨i, e, hl⟩; exact ⟨i, by omega, by omega⟩
  · rintro ⟨i, e, hl⟩; exact ⟨i, by omega, by omega⟩
theorem mem_low {U : Nat → Nat} {f l s : Int} (hf : 0 ≤ f) (hs : 1 ≤ s) (hU : IsSet U (f + 1) (l + 1) s) : mem U 0 = false := by
  cases h : mem U 0
  · rfl
  · obtain ⟨i, e, _⟩ := (hU.mem 0 (by omega)).1 h
    have : 0 ≤ (i : Int) * s := Int.mul_nonneg (by omega) (by omega)
    omega
theorem set_same {A B : Nat → Nat} {f l s : Int} (hA : IsSet A f l s) (hB : IsSet B f l s) : ∀ j, j < 4 → A j = B j :=
  words_unique hA.words hB.words fun v hv => by rw [Bool.eq_iff_iff, hA.mem v hv, hB.mem v hv]
theorem st_empty {A : Nat → Nat} {f l s : Int} (hA : IsSet A f l s) (hs : 1 ≤ s) (hfl : l < f) : st (mem A) 256 = (0, -1, -1) := by
  refine st_none 256 fun v hv => ?_
  cases h : mem A v
  · rfl
  · obtain ⟨i, e, hl⟩ := (hA.mem v hv).1 h
    have : 0 ≤ (i : Int) * s := Int.mul_nonneg (by omega) (by omega)
    omega
end Go.Proofs.Qxb6605821a.Pl
