/-
  The plain laws of this seat: lists of bytes, no Go in sight.
-/
import Derived.Lib.Strings
namespace Go.Proofs.Qxb6605747a.Pl

/-- How many blanks a text opens with. -/
def ind : List UInt8 → Nat
  | [] => 0
  | c :: r => if c = 32 then ind r + 1 else 0
/-- After its blanks, does the text open with a dash and a blank? -/
def entry : List UInt8 → Bool
  | [] => false
  | c :: r => if c = 32 then entry r else if c = 45 then (match r with | [] => false | d :: _ => d == 32) else false
/-- Blanks alone? -/
def allSp : List UInt8 → Bool
  | [] => true
  | c :: r => if c = 32 then allSp r else false
/-- The place of the first dash that a blank follows, counted from k; -1 where there is none. -/
def fd : Nat → List UInt8 → Int
  | _, [] => -1
  | k, c :: r => if c = 45 ∧ r.head? = some 32 then (k : Int) else fd (k + 1) r

theorem ind_le (l : List UInt8) : ind l ≤ l.length := by
  induction l with
  | nil => simp [ind]
  | cons c r ih => simp only [ind, List.length_cons]; split <;> omega

theorem drop_cons {l : List UInt8} {k : Nat} (h : k < l.length) : l.drop k = l[k] :: l.drop (k + 1) := by
  exact List.drop_eq_getElem_cons h

theorem ind_hit {l : List UInt8} {k : Nat} (h : k < l.length) (hc : l[k] = 32) : ind (l.drop k) = ind (l.drop (k + 1)) + 1 := by
  rw [drop_cons h]; simp [ind, hc]
theorem ind_miss {l : List UInt8} {k : Nat} (h : k < l.length) (hc : l[k] ≠ 32) : ind (l.drop k) = 0 := by
  rw [drop_cons h]; simp [ind, hc]
theorem ind_end {l : List UInt8} {k : Nat} (h : l.length ≤ k) : ind (l.drop k) = 0 := by
  rw [List.drop_eq_nil_of_le h]; rfl

theorem allSp_hit {l : List UInt8} {k : Nat} (h : k < l.length) (hc : l[k] = 32) : allSp (l.drop k) = allSp (l.drop (k + 1)) := by
  rw [drop_cons h]; simp [allSp, hc]
theorem allSp_miss {l : List UInt8} {k : Nat} (h : k < l.length) (hc : l[k] ≠ 32) : allSp (l.drop k) = false := by
  rw [drop_cons h]; simp [allSp, hc]
theorem allSp_end {l : List UInt8} {k : Nat} (h : l.length ≤ k) : allSp (l.drop k) = true := by
  rw [List.drop_eq_nil_of_le h]; rfl

theorem head_drop {l : List UInt8} {k : Nat} (h : k < l.length) : (l.drop k).head? = some l[k] := by
  rw [drop_cons h]; rfl

theorem fd_hit {l : List UInt8} {k : Nat} (h : k + 1 < l.length) (h1 : l[k] = 45) (h2 : l[k + 1] = 32) : fd k (l.drop k) = k := by
  have e := head_drop h
  rw [drop_cons (show k < l.length by omega)]; simp [fd, h1, e, h2]
theorem fd_miss {l : List UInt8} {k : Nat} (h : k + 1 < l.length) (h1 : ¬ (l[k] = 45 ∧ l[k + 1] = 32)) : fd k (l.drop k) = fd (k + 1) (l.drop (k + 1)) := by
  have e := head_drop h
  rw [drop_cons (show k < l.length by omega)]
  simp only [fd, e, Option.some.injEq]
  rw [if_neg h1]
theorem fd_end {l : List UInt8} {k : Nat} (h : l.length ≤ k + 1) : fd k (l.drop k) = -1 := by
  by_cases hk : k < l.length
  · rw [drop_cons hk, List.drop_eq_nil_of_le h]; simp [fd]
  · rw [List.drop_eq_nil_of_le (by omega)]; rfl

theorem fd_lo (l : List UInt8) : ∀ k : Nat, fd k l = -1 ∨ (k : Int) ≤ fd k l := by
  induction l with
  | nil => intro k; exact Or.inl rfl
  | cons c r ih =>
    intro k
    simp only [fd]
    split
    · right; omega
    · rcases ih (k + 1) with h | h
      · exact Or.inl h
      · right; omega
theorem fd_hi (l : List UInt8) : ∀ k : Nat, fd k l ≤ k + l.length := by
  induction l with
  | nil => intro k; simp only [fd, List.length_nil]; omega
  | cons c r ih =>
    intro k
    simp only [fd, List.length_cons]
    split
    · omega
    · have := ih (k + 1); omega

/-- The code's way to ask: drop the blanks, then look for the dash and the blank in front. -/
theorem entry_eq (l : List UInt8) : Lib.hasPrefix (l.drop (ind l)) [45, 32] = entry l := by
  induction l with
  | nil => rfl
  | cons c r ih =>
    by_cases h : c = 32
    · simp only [ind, entry, h, if_true, List.drop_succ_cons]; exact ih
    · simp only [ind, entry, h, if_false, List.drop_zero]
      cases r with
      | nil => by_cases h45 : c = 45 <;> simp [Lib.hasPrefix, List.isPrefixOf, h45]
      | cons d t =>
        by_cases h45 : c = 45
        · simp [Lib.hasPrefix, List.isPrefixOf, h45]
          rw [Bool.eq_iff_iff]
          simp only [beq_iff_eq]
          exact ⟨fun h => h.symm, fun h => h.symm⟩
        · simp [Lib.hasPrefix, List.isPrefixOf, h45]
          exact fun h => absurd h.symm h45

/-- THE FIRST LAW: an entry is what has blanks alone ahead of its first dash and blank. -/
theorem first_dash (l : List UInt8) : ∀ k : Nat, entry l = (decide (0 ≤ fd k l) && allSp (l.take (fd k l - k).toNat)) := by
  induction l with
  | nil => intro k; rfl
  | cons c r ih =>
    intro k
    by_cases h : c = 45 ∧ r.head? = some 32
    · obtain ⟨rfl, h2⟩ := h
      have hf : fd k (45 :: r) = k := by simp [fd, h2]
      rw [hf]
      cases r with
      | nil => simp at h2
      | cons d t => simp at h2; subst h2; simp [entry, allSp]
    · have hf : fd k (c :: r) = fd (k + 1) r := by simp only [fd]; rw [if_neg h]
      rw [hf]
      have hlo := fd_lo r (k + 1)
      have ihk := ih (k + 1)
      by_cases hn : 0 ≤ fd (k + 1) r
      · have hge : ((k + 1 : Nat) : Int) ≤ fd (k + 1) r := by rcases hlo with h | h <;> omega
        obtain ⟨m, hm⟩ : ∃ m : Nat, (fd (k + 1) r - (k : Nat)).toNat = m + 1 := ⟨(fd (k + 1) r - (k : Nat)).toNat - 1, by omega⟩
        have hm' : (fd (k + 1) r - ((k + 1 : Nat) : Int)).toNat = m := by omega
        rw [hm'] at ihk
        rw [hm, List.take_succ_cons]
        simp only [hn, decide_true, Bool.true_and] at ihk ⊢
        by_cases h32 : c = 32
        · simp [entry, allSp, h32, ihk]
        · simp only [entry, allSp, h32, if_false]
          by_cases h45 : c = 45
          · cases r with
            | nil => simp
            | cons d t =>
              have : d ≠ 32 := fun hd => h ⟨h45, by simp [hd]⟩
              simp [h45, this]
          · simp [h45]
      · simp only [hn, decide_false, Bool.false_and] at ihk ⊢
        by_cases h32 : c = 32
        · simp [entry, h32, ihk]
        · simp only [entry, h32, if_false]
          by_cases h45 : c = 45
          · cases r with
            | nil => simp
            | cons d t =>
              have : d ≠ 32 := fun hd => h ⟨h45, by simp [hd]⟩
              simp [h45, this]
          · simp [h45]

theorem entry_sp (n : Nat) (l : List UInt8) : entry (List.replicate n 32 ++ l) = entry l := by
  induction n with
  | zero => simp
  | succ n ih => rw [List.replicate_succ, List.cons_append]; simp [entry, ih]
theorem entry_dash (l : List UInt8) : entry (45 :: l) = (l.head? == some 32) := by
  cases l with
  | nil => simp [entry]
  | cons d t => simp [entry]
theorem entry_dash_sp (l : List UInt8) : entry (45 :: 32 :: l) = true := by simp [entry]
theorem entry_star (l : List UInt8) : entry (42 :: l) = false := by simp [entry]

end Go.Proofs.Qxb6605747a.Pl
