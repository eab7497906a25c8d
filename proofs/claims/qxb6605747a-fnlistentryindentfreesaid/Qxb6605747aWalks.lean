/-
  The walks of the callees: each computes the plain function of Qxb6605747aPlain.
-/
import Derived.Test.Qxb6605747aRows
import Derived.Test.Qxb6605747aPlain
import Derived.WalkKit
import Derived.WalkSpells
import Derived.Lib.Strings
import Derived.Lib.Walk
namespace Go.Proofs.Qxb6605747a
open Go.RowKit

theorem ret_int {k : IntKind} {a b : Int} (h : a = b) : Ending.returned (.int k a) = .returned (.int k b) := by rw [h]
theorem ret_bool {a b : Bool} (h : a = b) : Ending.returned (.bool a) = .returned (.bool b) := by rw [h]

/-- strings.HasPrefix. -/
theorem hasPrefix_any (s p : ByteArray) (w : World) :
    Calls Try.prog 12 #[.string s, .string p] w fun e w' => e = .returned (.bool (Lib.hasPrefix s.data.toList p.data.toList)) ∧ w' = w := by
  rw [← Lib.hasPrefix_of_take, ← Lib.size_eq, ← Lib.size_eq]
  go_enter Try.func12, Try.ntmps12
  go_wp2
  · rename_i h
    go_ret
    refine ⟨?_, rfl⟩
    show Ending.returned (Value.bool ((s.extract 0 p.size).toList == p.toList)) = _
    rw [Lib.extract_toList, Lib.toList_data]
    simp [h]
  · rename_i h
    go_ret
    refine ⟨?_, rfl⟩
    show Ending.returned (Value.bool false) = _
    simp [h]

theorem bt {b c : UInt8} {n : Int} (hn : n = (c.toNat : Int)) (h : ((b.toNat : Int) == n) = true) : b = c := by
  rw [← UInt8.toNat_inj]; have := beq_iff_eq.1 h; omega
theorem bf {b c : UInt8} {n : Int} (hn : n = (c.toNat : Int)) (h : ((b.toNat : Int) == n) = false) : b ≠ c := by
  rintro rfl
  rw [beq_eq_false_iff_ne] at h
  exact h hn.symm
theorem bnt {b c : UInt8} {n : Int} (hn : n = (c.toNat : Int)) (h : ((b.toNat : Int) != n) = true) : b ≠ c := by
  rintro rfl
  rw [bne_iff_ne] at h
  exact h hn.symm
theorem bnf {b c : UInt8} {n : Int} (hn : n = (c.toNat : Int)) (h : ((b.toNat : Int) != n) = false) : b = c := by
  rw [← UInt8.toNat_inj]; have := bne_eq_false_iff_eq.1 h; omega
theorem sz {s : ByteArray} {k : Nat} (h : k < s.size) : k < s.data.toList.length := by rw [← Lib.size_eq]; exact h

/-- plan.indentation. -/
theorem indentation_any (s : ByteArray) (w : World) (hs : s.size ≤ maxLen) :
    Calls Try.prog 13 #[.string s] w fun e w' => e = .returned (.int .i64 (Pl.ind s.data.toList)) ∧ w' = w := by
  unfold maxLen at hs
  go_enter Try.func13, Try.ntmps13
  go_wp2
  go_loop [3] (fun i => ∃ k : Nat, k ≤ s.size ∧ i = .int .i64 k ∧ Pl.ind s.data.toList = k + Pl.ind (s.data.toList.drop k)) (fun i => s.size - (intOf i).toNat)
  case atStart => exact ⟨0, Nat.zero_le _, rfl, by simp⟩
  case round =>
    obtain ⟨k, hk, rfl, hrel⟩ := hrel
    have HR : Hid (Pl.ind s.data.toList = k + Pl.ind (s.data.toList.drop k)) := hrel
    clear hrel
    go_wp2
    · have hlt : k < s.size := by assumption
      have hd : ((s[k].toNat : Int) == 32) = true := by assumption
      have hc : s[k] = 32 := bt rfl hd
      go_round
      case rel => exact ⟨k + 1, by omega, by go_num, by rw [HR.out, Pl.ind_hit (sz hlt) hc]; omega⟩
      case measure => simp [intOf]; omega
    · have hlt : k < s.size := by assumption
      have hd : ((s[k].toNat : Int) == 32) = false := by assumption
      have hc : s[k] ≠ 32 := bf rfl hd
      go_ret
      exact ⟨ret_int (by rw [HR.out, Pl.ind_miss (sz hlt) hc]; rfl), rfl⟩
    · have hge : ¬ k < s.size := by assumption
      go_ret
      exact ⟨ret_int (by rw [HR.out, Pl.ind_end (by rw [← Lib.size_eq]; omega)]; rfl), rfl⟩

theorem extract_ind (s : ByteArray) : Lib.hasPrefix (List.take (s.size - Pl.ind s.data.toList) (List.drop (Pl.ind s.data.toList) s.data.toList)) [45, 32] = Pl.entry s.data.toList := by
  rw [← Pl.entry_eq, List.take_of_length_le (by rw [List.length_drop, ← Lib.size_eq]; exact Nat.le_refl _)]

/-- plan.ZZlistEntry. -/
theorem entry_any (s : ByteArray) (w : World) (hs : s.size ≤ maxLen) :
    Calls Try.prog 8 #[.string s] w fun e w' => e = .returned (.bool (Pl.entry s.data.toList)) ∧ w' = w := by
  have hle := Pl.ind_le s.data.toList
  rw [← Lib.size_eq] at hle
  rw [← extract_ind]
  go_enter Try.func8, Try.ntmps8
  go_wp2_with (first
    | (go_at_call 13; refine (indentation_any _ _ hs).mono ?_; rintro e w' ⟨rfl, rfl⟩)
    | (go_at_call 12; refine (hasPrefix_any _ _ _).mono ?_; rintro e w' ⟨rfl, rfl⟩)
    | go_in)
  go_ret
  exact ⟨rfl, rfl⟩

/-- zzBytes_FnListEntryMatchesFirstDash, zzBytes_FnListEntryIndentFree. -/
theorem bytes5 (s : ByteArray) (w : World) (hs : s.size ≤ maxLen) :
    Calls Try.prog 5 #[.string s] w fun e w' => e = .returned (.bool (decide (s.size ≤ 1048576))) ∧ w' = w := by
  unfold maxLen at hs
  by_cases h : s.size ≤ 1048576
  all_goals
    go_enter Try.func5, Try.ntmps5
    go_wp2
    go_ret
    exact ⟨ret_bool (by simp [h]), rfl⟩
theorem bytes9 (n : Int) (s : ByteArray) (w : World) (hs : s.size ≤ maxLen) :
    Calls Try.prog 9 #[.int .i64 n, .string s] w fun e w' => e = .returned (.bool (decide (s.size ≤ 1048576))) ∧ w' = w := by
  unfold maxLen at hs
  by_cases h : s.size ≤ 1048576
  all_goals
    go_enter Try.func9, Try.ntmps9
    go_wp2
    go_ret
    exact ⟨ret_bool (by simp [h]), rfl⟩

/-- zzFirstDashSpace. -/
theorem firstDash_any (s : ByteArray) (w : World) (hs : s.size ≤ 1048576) :
    Calls Try.prog 6 #[.string s] w fun e w' => e = .returned (.int .i64 (Pl.fd 0 s.data.toList)) ∧ w' = w := by
  go_enter Try.func6, Try.ntmps6
  go_wp2
  go_loop [3] (fun i => ∃ k : Nat, k ≤ s.size ∧ i = .int .i64 k ∧ Pl.fd 0 s.data.toList = Pl.fd k (s.data.toList.drop k)) (fun i => s.size - (intOf i).toNat)
  case atStart => exact ⟨0, Nat.zero_le _, rfl, by simp⟩
  case round =>
    obtain ⟨k, hk, rfl, hrel⟩ := hrel
    have HR : Hid (Pl.fd 0 s.data.toList = Pl.fd k (s.data.toList.drop k)) := hrel
    clear hrel
    go_wp2
    · have hlt : (k : Int) + 1 < (s.size : Int) := by assumption
      have h1 : (s[k].toNat : Int) = 45 := by assumption
      have h2 : ((s[k + 1].toNat : Int) == 32) = true := by assumption
      have c1 : s[k] = 45 := bt rfl (beq_iff_eq.2 h1)
      have c2 : s[k + 1] = 32 := bt rfl h2
      go_ret
      exact ⟨ret_int (by rw [HR.out, Pl.fd_hit (sz (by omega)) c1 c2]), rfl⟩
    · have hlt : (k : Int) + 1 < (s.size : Int) := by assumption
      have h2 : ((s[k + 1].toNat : Int) == 32) = false := by assumption
      have c2 : s[k + 1] ≠ 32 := bf rfl h2
      go_round
      case rel => exact ⟨k + 1, by omega, by go_num, by rw [HR.out, Pl.fd_miss (sz (by omega)) (fun h => c2 h.2)]⟩
      case measure => simp [intOf]; omega
    · have hlt : (k : Int) + 1 < (s.size : Int) := by assumption
      have hks : k < s.size := by omega
      have h1 : ¬ (s[k].toNat : Int) = 45 := by assumption
      have c1 : s[k] ≠ 45 := bf rfl (beq_eq_false_iff_ne.2 h1)
      go_round
      case rel => exact ⟨k + 1, by omega, by go_num, by rw [HR.out, Pl.fd_miss (sz (by omega)) (fun h => c1 h.1)]⟩
      case measure => simp [intOf]; omega
    · have hge : (s.size : Int) ≤ (k : Int) + 1 := by assumption
      go_ret
      exact ⟨ret_int (by rw [HR.out, Pl.fd_end (by rw [← Lib.size_eq]; omega)]), rfl⟩

/-- zzAllSpaces. -/
theorem allSpaces_any (s : ByteArray) (w : World) (hs : s.size ≤ 1048576) :
    Calls Try.prog 7 #[.string s] w fun e w' => e = .returned (.bool (Pl.allSp s.data.toList)) ∧ w' = w := by
  go_enter Try.func7, Try.ntmps7
  go_wp2
  go_loop [3] (fun i => ∃ k : Nat, k ≤ s.size ∧ i = .int .i64 k ∧ Pl.allSp s.data.toList = Pl.allSp (s.data.toList.drop k)) (fun i => s.size - (intOf i).toNat)
  case atStart => exact ⟨0, Nat.zero_le _, rfl, by simp⟩
  case round =>
    obtain ⟨k, hk, rfl, hrel⟩ := hrel
    have HR : Hid (Pl.allSp s.data.toList = Pl.allSp (s.data.toList.drop k)) := hrel
    clear hrel
    go_wp2
    · have hlt : k < s.size := by assumption
      have h1 : ((s[k].toNat : Int) != 32) = true := by assumption
      have c1 : s[k] ≠ 32 := bnt rfl h1
      go_ret
      exact ⟨ret_bool (by rw [HR.out, Pl.allSp_miss (sz hlt) c1]), rfl⟩
    · have hlt : k < s.size := by assumption
      have h1 : ((s[k].toNat : Int) != 32) = false := by assumption
      have c1 : s[k] = 32 := bnf rfl h1
      go_round
      case rel => exact ⟨k + 1, by omega, by go_num, by rw [HR.out, Pl.allSp_hit (sz hlt) c1]⟩
      case measure => simp [intOf]; omega
    · have hge : ¬ k < s.size := by assumption
      go_ret
      exact ⟨ret_bool (by rw [HR.out, Pl.allSp_end (by rw [← Lib.size_eq]; omega)]), rfl⟩
end Go.Proofs.Qxb6605747a
