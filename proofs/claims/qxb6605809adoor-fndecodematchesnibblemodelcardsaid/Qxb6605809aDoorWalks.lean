/-
  The walks of the callees.
-/
import Derived.Test.Qxb6605809aDoorRows
import Derived.Test.Qxb6605809aDoorPlain
import Derived.Test.Qxb6605809aDoorShelf
import Derived.WalkKit
import Derived.WalkSpells
import Derived.Lib.Strings
import Derived.Deep.OwnRows
import Derived.Deep.QuietTactic
import Derived.BigQuiet
namespace Go.Proofs.Qxb6605809aDoor
open Go.RowKit

theorem ret_bool {a b : Bool} (h : a = b) : Ending.returned (.bool a) = .returned (.bool b) := by rw [h]
theorem bt {b c : UInt8} (h : ((b.toNat : Int) == (c.toNat : Int)) = true) : b = c := by
  rw [← UInt8.toNat_inj]; have := beq_iff_eq.1 h; omega
theorem bf {b c : UInt8} (h : ((b.toNat : Int) == (c.toNat : Int)) = false) : b ≠ c := by
  rintro rfl
  simp at h
theorem sz {s : ByteArray} {k : Nat} (h : k < s.size) : k < s.data.toList.length := by rw [← Lib.size_eq]; exact h

theorem bytes5 (s : ByteArray) (w : World) (hs : s.size ≤ maxLen) :
    Calls Tryd.prog 5 #[.string s] w fun e w' => e = .returned (.bool (decide (s.size ≤ 1048576))) ∧ w' = w := by
  unfold maxLen at hs
  by_cases h : s.size ≤ 1048576
  all_goals
    go_enter Tryd.func5, Tryd.ntmps5
    go_wp2
    go_ret
    exact ⟨ret_bool (by simp [h]), rfl⟩

/-- zzb1Nib. -/
theorem nib_any (c : UInt8) (w : World) :
    Calls Tryd.prog 15 #[.int .u8 c.toNat] w fun e w' => e = .returned (.tuple #[.int .u8 ((Pl.nib c).1 : Int), .bool (Pl.nib c).2]) ∧ w' = w := by
  go_enter Tryd.func15, Tryd.ntmps15
  go_wp2
  go_loop [4] (fun i => ∃ k : Nat, k ≤ 16 ∧ i = .int .i64 k ∧ Pl.nib c = Pl.nibAt k (Pl.digs.drop k) c) (fun i => 16 - (intOf i).toNat)
  case atStart => exact ⟨0, Nat.zero_le _, rfl, rfl⟩
  case round =>
    obtain ⟨k, hk, rfl, hrel⟩ := hrel
    have HR : Hid (Pl.nib c = Pl.nibAt k (Pl.digs.drop k) c) := hrel
    clear hrel
    go_wp2
    · have hlt : (k : Int) < 16 := by assumption
      have hk : k < Pl.digs.length := by show k < 16; omega
      have hc : Pl.digs[k] = c := bt (by assumption)
      go_ret2
      rw [HR.out, Pl.nib_hit hk hc]
      exact ⟨rfl, rfl⟩
    · have hlt : (k : Int) < 16 := by assumption
      have hk : k < Pl.digs.length := by show k < 16; omega
      have hc : Pl.digs[k] ≠ c := bf (by assumption)
      go_round
      case rel => exact ⟨k + 1, by omega, by go_num, by rw [HR.out, Pl.nib_miss hk hc]⟩
      case measure => simp [intOf]; omega
    · have hge : 16 ≤ (k : Int) := by assumption
      go_ret2
      rw [HR.out, Pl.nib_end (by show 16 ≤ k; omega)]
      exact ⟨rfl, rfl⟩

/-- zzb1AllLowerHex. -/
theorem allLow_any (s : ByteArray) (w : World) (hs : s.size ≤ 1048576) :
    Calls Tryd.prog 7 #[.string s] w fun e w' => e = .returned (.bool (Pl.allLow s.data.toList)) ∧ w' = w := by
  go_enter Tryd.func7, Tryd.ntmps7
  go_wp2
  go_loop [3] (fun i => ∃ k : Nat, k ≤ s.size ∧ i = .int .i64 k ∧ Pl.allLow s.data.toList = Pl.allLow (s.data.toList.drop k)) (fun i => s.size - (intOf i).toNat)
  case atStart => exact ⟨0, Nat.zero_le _, rfl, by simp⟩
  case round =>
    obtain ⟨k, hk, rfl, hrel⟩ := hrel
    have HR : Hid (Pl.allLow s.data.toList = Pl.allLow (s.data.toList.drop k)) := hrel
    clear hrel
    by_cases hlt : k < s.size
    · cases hl : Pl.low s[k]
      · have HL : Hid (Pl.low s[k] = false) := hl
        have hn : (Pl.nib s[k]).2 = false := by rw [Pl.nib_low, hl]
        clear hl
        go_wp2_with (go_at_call 15; refine (nib_any _ _).mono ?_; rintro e w' ⟨rfl, rfl⟩)
        go_ret
        exact ⟨ret_bool (by rw [HR.out, Pl.all_miss (sz hlt) HL.out]), rfl⟩
      · have HL : Hid (Pl.low s[k] = true) := hl
        have hn : (Pl.nib s[k]).2 = true := by rw [Pl.nib_low, hl]
        clear hl
        go_wp2_with (go_at_call 15; refine (nib_any _ _).mono ?_; rintro e w' ⟨rfl, rfl⟩)
        go_round
        case rel => exact ⟨k + 1, by omega, by go_num, by rw [HR.out, Pl.all_hit (sz hlt) HL.out]⟩
        case measure => simp [intOf]; omega
    · go_wp2
      go_ret
      exact ⟨ret_bool (by rw [HR.out, Pl.all_end (by rw [← Lib.size_eq]; omega)]), rfl⟩
end Go.Proofs.Qxb6605809aDoor
