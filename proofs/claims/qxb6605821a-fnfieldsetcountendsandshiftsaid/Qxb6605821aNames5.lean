/-
  zzBytes of the second law; the exact world behind zzBit; two equal sets compared.
-/
import Derived.Test.Qxb6605821aNames
import Derived.Laws.StructEq
import Derived.ChangeKeysEq
namespace Go.Proofs.Qxb6605821a
open Go.RowKit

set_option maxHeartbeats 1000000 in
theorem bytes13 (nm : ByteArray) (mn mx base : Int) (a : Option Addr) (len cap : Nat) (S : Nat → ByteArray) (lo hi s : Int) (w : World) (hnm : nm.size ≤ maxLen) (hlen : len ≤ maxLen) (hS : Strs w a len S) :
    Calls Try.prog 13 #[.string nm, .int .i64 mn, .int .i64 mx, .int .i64 base, .slice a len cap, .int .i64 lo, .int .i64 hi, .int .i64 s] w fun e w' => Guarded nm len S w e w' := by
  unfold maxLen at hnm hlen
  by_cases h1 : nm.size ≤ 1048576
  · by_cases h2 : len ≤ 1048576
    · by_cases h3 : nm.size + len ≤ 1048576
      · go_enter Try.func13, Try.ntmps13
        go_wp2
        go_loop [17, 18] (fun n i => ∃ (k : Nat) (t : Int), k ≤ len ∧ i = .int .i64 k ∧ n = .int .i64 t ∧ 0 ≤ t ∧ t ≤ 1048576 ∧ ∀ j, j < k → (S j).size ≤ 1048576) (fun _ i => len - (intOf i).toNat)
        case atStart => exact ⟨0, _, Nat.zero_le _, rfl, rfl, by omega, by omega, fun j hj => absurd hj (Nat.not_lt_zero _)⟩
        case round =>
          obtain ⟨k, t, hk, rfl, rfl, ht0, ht1, hj⟩ := hrel
          by_cases hlt : k < len
          · obtain ⟨b, off, rfl, hc⟩ := hS k hlt
            have HJ : Hid (∀ j, j < k → (S j).size ≤ 1048576) := hj
            clear hS hj
            by_cases hsz : (S k).size ≤ 1048576
            · have HJ2 : Hid (∀ j, j < k + 1 → (S j).size ≤ 1048576) := fun j hj => by
                by_cases e : j = k
                · subst e; exact hsz
                · exact HJ.out j (by omega)
              by_cases hsum : t + ((S k).size : Int) ≤ 1048576
              · go_wp2
                go_round
                case rel => exact ⟨k + 1, _, by omega, by go_num, rfl, by omega, by omega, HJ2.out⟩
                case measure => simp [intOf]; omega
              · go_wp2
                go_ret
                exact guarded_no
            · go_wp2
              go_ret
              exact guarded_no
          · obtain rfl : k = len := by omega
            have HJ : Hid (Small nm k S) := ⟨h1, h2, hj⟩
            clear hS hj
            go_wp2
            go_ret
            exact guarded_yes HJ.out
      · clear hS
        go_enter Try.func13, Try.ntmps13
        go_wp2
        go_ret
        exact guarded_no
    · clear hS
      go_enter Try.func13, Try.ntmps13
      go_wp2
      go_ret
      exact guarded_no
  · clear hS
    go_enter Try.func13, Try.ntmps13
    go_wp2
    go_ret
    exact guarded_no


theorem info26 : (Try.prog.info? 26).map (fun i => (i.zero, i.size, i.bytes)) = some (some (.int .u64 0), 1, 8) := by kernel_rfl
theorem cells26 : Try.prog.cellsOf 26 = 1 := by kernel_rfl
/-- Two equal sets, compared by '!='. -/
theorem arr_neq (x0 x1 x2 x3 : Int) (w : World) :
    (binOp .neq 27 (.agg #[.int .u64 x0, .int .u64 x1, .int .u64 x2, .int .u64 x3]) (.agg #[.int .u64 x0, .int .u64 x1, .int .u64 x2, .int .u64 x3])).run Try.prog w = .ok (.bool false) w := by
  obtain ⟨i, hi, _⟩ := Option.map_eq_some_iff.1 info26
  rw [run_neq_struct, show (10000 : Nat) = 9999 + 1 from rfl, run_equalIn_array w 9999 _ _ Try.underlying27 hi, cells26]
  have e := fun (x : Int) => run_equalIn_int (P := Try.prog) w 9998 26 .u64 .u64 x x Try.underlying26
  simp [List.range_succ, Op.eqItems, part, isAgg, run_underlying Try.underlying26, e]
end Go.Proofs.Qxb6605821a
