/-
  FnDecodeMatchesNibbleModel: the walk.
-/
import Derived.Test.Qxb6605809aDoorDecode
import Derived.WideLaws
import Derived.Lib.LazyBuf
namespace Go.Proofs.Qxb6605809aDoor
open Go.RowKit

set_option maxHeartbeats 400000 in
theorem law_bad (s : ByteArray) (w : World) (hs : s.size ≤ 1048576) (hall : Pl.allLow s.data.toList = false) :
    Calls Tryd.prog 3 #[.string s] w fun e w' => e = .returned (.bool true) ∧ Below w.heap.size w w' := by
  have hd : decide (s.size ≤ 1048576) = true := decide_eq_true hs
  have hm : s.size ≤ maxLen := by unfold maxLen; omega
  have hnil := fun wx => Lib.run_eql_slice_nil (P := Tryd.prog) wx 23 5 none 0 0 0 0 Tryd.underlying23
  have hneq := fun wx a => run_neq_held_nil (P := Tryd.prog) wx 25 37 (.pointer (some a)) (by kernel_rfl)
  go_enter Tryd.func3, Tryd.ntmps3
  go_wp2_with (first
    | (go_at_call 5; refine (bytes5 _ _ hm).mono ?_; rintro e w' ⟨rfl, rfl⟩)
    | (go_at_call 6; refine (decode_bad _ _ hs hall).mono ?_; rintro e w' ⟨⟨a, rfl⟩, hb⟩)
    | (go_at_call 7; refine (allLow_any _ _ hs).mono ?_; rintro e w' ⟨rfl, rfl⟩))
  go_ret
  exact ⟨rfl, by assumption⟩

theorem row_cells {w : World} {b n : Nat} {D : List UInt8} (h : w.rowIs b 5 n (pRow D n)) : ∀ i, i < n → w.cell? ⟨b, i, none⟩ = some (.int .u8 ((D[i]?.getD 0).toNat : Int)) := fun i hi => by
  rw [h.cell hi]; simp [pRow, hi]

theorem decode_odd (s : ByteArray) (w : World) (ev : Value) (hE : w.cell? ⟨0, 0, none⟩ = some ev) (hs : s.size ≤ 1048576) (hall : Pl.allLow s.data.toList = true) (hodd : s.size % 2 = 1) :
    Calls Tryd.prog 6 #[.string s] w fun e w' => e = .returned (.tuple #[.slice (some ⟨w.heap.size, 0, none⟩) (s.size / 2) (s.size / 2), ev]) ∧
      w'.rowIs w.heap.size 5 (s.size / 2) (pRow (Pl.pairs s.data.toList) (s.size / 2)) ∧ Below w.heap.size w w' := by
  have hdec := decode_good s w _ hE hs hall
  rwa [show Pl.ends s.data.toList = .odd by unfold Pl.ends; rw [← Lib.size_eq, if_pos hodd]] at hdec
theorem decode_even (s : ByteArray) (w : World) (ev : Value) (hE : w.cell? ⟨0, 0, none⟩ = some ev) (hs : s.size ≤ 1048576) (hall : Pl.allLow s.data.toList = true) (hodd : s.size % 2 = 0) :
    Calls Tryd.prog 6 #[.string s] w fun e w' => e = .returned (.tuple #[.slice (some ⟨w.heap.size, 0, none⟩) (s.size / 2) (s.size / 2), .nilIface]) ∧
      w'.rowIs w.heap.size 5 (s.size / 2) (pRow (Pl.pairs s.data.toList) (s.size / 2)) ∧ Below w.heap.size w w' := by
  have hdec := decode_good s w _ hE hs hall
  rwa [show Pl.ends s.data.toList = .ok by unfold Pl.ends; rw [← Lib.size_eq, if_neg (by omega)]] at hdec

set_option maxHeartbeats 400000 in
theorem law_odd (s : ByteArray) (w : World) (u : TypeId) (x : Value) (hE : w.cell? ⟨0, 0, none⟩ = some (.iface u x)) (hs : s.size ≤ 1048576) (hall : Pl.allLow s.data.toList = true) (hodd : s.size % 2 = 1) :
    Calls Tryd.prog 3 #[.string s] w fun e w' => e = .returned (.bool true) ∧ Below w.heap.size w w' := by
  have hd : decide (s.size ≤ 1048576) = true := decide_eq_true hs
  have hm : s.size ≤ maxLen := by unfold maxLen; omega
  have hneq := fun wx => run_neq_held_nil (P := Tryd.prog) wx 25 u x (by kernel_rfl)
  have ho : ((s.size : Int) % 2 == 1) = true := beq_iff_eq.2 (by omega)
  go_enter Tryd.func3, Tryd.ntmps3
  go_wp2_with (first
    | (go_at_call 5; refine (bytes5 _ _ hm).mono ?_; rintro e w' ⟨rfl, rfl⟩))
  refine (decode_odd _ _ _ hE hs hall hodd).mono ?_
  rintro e w1 ⟨rfl, hr1, hb1⟩
  go_wp2_with (first
    | (go_at_call 7; refine (allLow_any _ _ hs).mono ?_; rintro e w' ⟨rfl, rfl⟩))
  refine (pairs_any _ _ hs).mono ?_
  rintro e w2 ⟨rfl, hr2, hb2⟩
  have c1 := row_cells (hr1.of_block (hb2.block _ hr1.lt))
  have c2 := row_cells hr2
  go_wp2_with fail
  refine (same_any _ _ _ _ _ _ _ (by omega) c1 c2).mono ?_
  rintro e w3 ⟨rfl, q, rfl⟩
  have hb3 := below_drewN (hb1.trans (hb2.mono hb1.size)) q
  clear c1 c2 hr1 hr2
  go_wp2
  go_ret
  exact ⟨rfl, hb3⟩

set_option maxHeartbeats 400000 in
theorem law_even (s : ByteArray) (w : World) (ev : Value) (hE : w.cell? ⟨0, 0, none⟩ = some ev) (hs : s.size ≤ 1048576) (hall : Pl.allLow s.data.toList = true) (hodd : s.size % 2 = 0) :
    Calls Tryd.prog 3 #[.string s] w fun e w' => e = .returned (.bool true) ∧ Below w.heap.size w w' := by
  have hd : decide (s.size ≤ 1048576) = true := decide_eq_true hs
  have hm : s.size ≤ maxLen := by unfold maxLen; omega
  have hnn := fun wx => run_eql_nil_nil (P := Tryd.prog) wx 25 (by kernel_rfl)
  have ho : ((s.size : Int) % 2 == 1) = false := beq_eq_false_iff_ne.2 (by omega)
  go_enter Tryd.func3, Tryd.ntmps3
  go_wp2_with (first
    | (go_at_call 5; refine (bytes5 _ _ hm).mono ?_; rintro e w' ⟨rfl, rfl⟩))
  refine (decode_even _ _ _ hE hs hall hodd).mono ?_
  rintro e w1 ⟨rfl, hr1, hb1⟩
  go_wp2_with (first
    | (go_at_call 7; refine (allLow_any _ _ hs).mono ?_; rintro e w' ⟨rfl, rfl⟩))
  refine (pairs_any _ _ hs).mono ?_
  rintro e w2 ⟨rfl, hr2, hb2⟩
  have c1 := row_cells (hr1.of_block (hb2.block _ hr1.lt))
  have c2 := row_cells hr2
  go_wp2_with fail
  refine (same_any _ _ _ _ _ _ _ (by omega) c1 c2).mono ?_
  rintro e w3 ⟨rfl, q, rfl⟩
  have hb3 := below_drewN (hb1.trans (hb2.mono hb1.size)) q
  clear c1 c2 hr1 hr2
  go_wp2
  go_ret
  exact ⟨rfl, hb3⟩

theorem law_long (s : ByteArray) (w : World) (hm : s.size ≤ maxLen) (hs : ¬ s.size ≤ 1048576) :
    Calls Tryd.prog 3 #[.string s] w fun e w' => e = .returned (.bool true) ∧ Below w.heap.size w w' := by
  have hd : decide (s.size ≤ 1048576) = false := decide_eq_false hs
  go_enter Tryd.func3, Tryd.ntmps3
  go_wp2_with (go_at_call 5; refine (bytes5 _ _ hm).mono ?_; rintro e w' ⟨rfl, rfl⟩)
  go_ret
  exact ⟨rfl, Below.refl _ _⟩

theorem walk (s : ByteArray) (w : World) (u : TypeId) (x : Value) (hE : w.cell? ⟨0, 0, none⟩ = some (.iface u x)) (hm : s.size ≤ maxLen) :
    Calls Tryd.prog 3 #[.string s] w fun e w' => e = .returned (.bool true) ∧ Below w.heap.size w w' := by
  by_cases hs : s.size ≤ 1048576
  · cases hall : Pl.allLow s.data.toList
    · exact law_bad s w hs hall
    · by_cases hodd : s.size % 2 = 1
      · exact law_odd s w u x hE hs hall hodd
      · exact law_even s w _ hE hs hall (by omega)
  · exact law_long s w hm hs
end Go.Proofs.Qxb6605809aDoor
