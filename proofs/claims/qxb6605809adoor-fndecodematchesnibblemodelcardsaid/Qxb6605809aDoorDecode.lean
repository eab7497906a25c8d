/-
  lowerhex.Decode.
-/
import Derived.Test.Qxb6605809aDoorPairs
import Derived.Test.Qxb6605809aDoorShelf
namespace Go.Proofs.Qxb6605809aDoor
open Go.RowKit

theorem low_yes {c : UInt8} (h : Pl.low c = true) : ((48 : Int) ≤ (c.toNat : Int) ∧ (c.toNat : Int) ≤ 57) ∨ ((97 : Int) ≤ (c.toNat : Int) ∧ (c.toNat : Int) ≤ 102) := by
  simp [Pl.low] at h
  omega
theorem low_no {c : UInt8} (h : Pl.low c = false) : (c.toNat : Int) < 48 ∨ ((57 : Int) < (c.toNat : Int) ∧ (c.toNat : Int) < 97) ∨ (102 : Int) < (c.toNat : Int) := by
  simp [Pl.low] at h
  omega

set_option maxHeartbeats 400000 in
/-- lowerhex.Decode where a byte is no lower-case digit: nil bytes, an error that is not nil. -/
theorem decode_bad (s : ByteArray) (w : World) (hs : s.size ≤ 1048576) (hall : Pl.allLow s.data.toList = false) :
    Calls Tryd.prog 6 #[.string s] w fun e w' => (∃ a, e = .returned (.tuple #[.slice none 0 0, .iface 37 (.pointer (some a))])) ∧ Below w.heap.size w w' := by
  have HA : Hid (Pl.allLow s.data.toList = false) := hall
  clear hall
  go_enter Tryd.func6, Tryd.ntmps6
  go_wp2
  go_loop [8] (fun i => ∃ k : Nat, k ≤ s.size ∧ i = .int .i64 k ∧ Pl.allLow s.data.toList = Pl.allLow (s.data.toList.drop k)) (fun i => s.size - (intOf i).toNat)
  case atStart => exact ⟨0, Nat.zero_le _, rfl, by simp⟩
  case round =>
    obtain ⟨k, hk, rfl, hrel⟩ := hrel
    have HR : Hid (Pl.allLow s.data.toList = Pl.allLow (s.data.toList.drop k)) := hrel
    clear hrel
    by_cases hlt : k < s.size
    · cases hl : Pl.low s[k]
      · have hn := low_no hl
        clear hl
        rcases hn with hn | ⟨hn, hn'⟩ | hn
        all_goals
          go_wp2
          go_ret2
          exact ⟨⟨_, rfl⟩, (Below.refl _ _).alloc (Nat.le_refl _) _⟩
      · have HL : Hid (Pl.low s[k] = true) := hl
        have hn := low_yes hl
        clear hl
        rcases hn with ⟨hn, hn'⟩ | ⟨hn, hn'⟩
        all_goals
          go_wp2
          go_round
          case rel => exact ⟨k + 1, by omega, by go_num, by rw [HR.out, Pl.all_hit (sz hlt) HL.out]⟩
          case measure => simp [intOf]; omega
    · exfalso
      have := HR.out
      rw [HA.out, Pl.all_end (by rw [← Lib.size_eq]; omega)] at this
      cases this

set_option maxHeartbeats 400000 in
/-- lowerhex.Decode where every byte is a lower-case digit: the pairs' bytes in a row of their own; the error as the length is even or odd. -/
theorem decode_good (s : ByteArray) (w : World) (ev : Value) (hE : w.cell? ⟨0, 0, none⟩ = some ev) (hs : s.size ≤ 1048576) (hall : Pl.allLow s.data.toList = true) :
    Calls Tryd.prog 6 #[.string s] w fun e w' => e = .returned (.tuple #[.slice (some ⟨w.heap.size, 0, none⟩) (s.size / 2) (s.size / 2), Lib.Hx.errVal 43 ev (Pl.ends s.data.toList)]) ∧
      w'.rowIs w.heap.size 5 (s.size / 2) (pRow (Pl.pairs s.data.toList) (s.size / 2)) ∧ Below w.heap.size w w' := by
  have HA : Hid (Pl.allLow s.data.toList = true) := hall
  have hdec := Tryd.hex_DecodeString s w ev hE (by omega)
  rw [Pl.decode_pairs _ hall] at hdec
  have hpl := Pl.pairs_length s.data.toList
  rw [← Lib.size_eq] at hpl
  simp only [hpl] at hdec
  have hrw : ∀ w' : World, w'.rowIs w.heap.size 5 (s.size / 2) (Lib.Hx.rowP (fun _ => .int .u8 0) 0 (Pl.pairs s.data.toList)) → w'.rowIs w.heap.size 5 (s.size / 2) (pRow (Pl.pairs s.data.toList) (s.size / 2)) := fun w' h => h.congr (fun i hi => by
    simp only [Lib.Hx.rowP, pRow, hpl, Nat.zero_add, Nat.zero_le, true_and, if_pos hi, Nat.sub_zero])
  have HD : Hid (Calls Tryd.prog 14 #[.string s] w fun e w' => e = .returned (.tuple #[.slice (some ⟨w.heap.size, 0, none⟩) (s.size / 2) (s.size / 2), Lib.Hx.errVal 43 ev (Pl.ends s.data.toList)]) ∧
      w'.rowIs w.heap.size 5 (s.size / 2) (pRow (Pl.pairs s.data.toList) (s.size / 2)) ∧ Below w.heap.size w w') := hdec.mono (fun e w' h => ⟨h.1, hrw w' h.2.1, h.2.2⟩)
  clear hall hdec hpl hrw
  go_enter Tryd.func6, Tryd.ntmps6
  go_wp2
  go_loop [8] (fun i => ∃ k : Nat, k ≤ s.size ∧ i = .int .i64 k) (fun i => s.size - (intOf i).toNat)
  case atStart => exact ⟨0, Nat.zero_le _, rfl⟩
  case round =>
    obtain ⟨k, hk, rfl⟩ := hrel
    by_cases hlt : k < s.size
    · have hn := low_yes (Pl.all_at HA.out (sz hlt))
      have hn2 : ((48 : Int) ≤ (s[k].toNat : Int) ∧ (s[k].toNat : Int) ≤ 57) ∨ ((97 : Int) ≤ (s[k].toNat : Int) ∧ (s[k].toNat : Int) ≤ 102) := hn
      clear hn
      rcases hn2 with ⟨hn, hn'⟩ | ⟨hn, hn'⟩
      all_goals
        go_wp2
        go_round
        case rel => exact ⟨k + 1, by omega, by go_num⟩
        case measure => simp [intOf]; omega
    · go_wp2_with fail
      refine HD.out.mono ?_
      rintro e w1 ⟨rfl, hrow, hb⟩
      go_wp2
      go_ret2
      exact ⟨rfl, hrow, hb⟩
end Go.Proofs.Qxb6605809aDoor
