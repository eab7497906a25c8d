/-
  zzSpaces: n blanks in a string of their own.
-/
import Derived.Test.Qxb6605747aWalks
import Derived.Deep.OwnRows
import Derived.Laws.BytesArg
namespace Go.Proofs.Qxb6605747a
open Go.RowKit

theorem info5 : (Try.prog.info? 5).map (fun i => (i.zero, i.size, i.bytes)) = some (some (.int .u8 0), 1, 1) := by kernel_rfl

/-- What stands in the row behind k rounds. -/
def spRow (k : Nat) (i : Nat) : Value := if i < k then .int .u8 32 else .int .u8 0
theorem spRow_at (k : Nat) : spRow k k = .int .u8 0 := by simp [spRow]
theorem spRow_step (k i : Nat) : (if i = k then Value.int .u8 32 else spRow k i) = spRow (k + 1) i := by
  unfold spRow
  by_cases h : i = k
  · rw [if_pos h, if_pos (by omega)]
  · rw [if_neg h]
    by_cases h2 : i < k
    · rw [if_pos h2, if_pos (by omega)]
    · rw [if_neg h2, if_neg (by omega)]
def sps (n : Nat) : ByteArray := ⟨(List.replicate n 32).toArray⟩
theorem sps_str (n : Nat) : strOfNums (List.replicate n 32) = sps n := by
  simp [strOfNums, sps]

set_option maxHeartbeats 400000 in
theorem spaces_any (n : Nat) (w : World) (hn : n ≤ 65536) :
    Calls Try.prog 10 #[.int .i64 n] w fun e w' => e = .returned (.string (sps n)) ∧ Grown w w' := by
  have hmk := run_make_row' (P := Try.prog) 26 5 (.int .u8 0) 1 Try.underlying26 info5 rfl .i64 .i64 n (by omega) (by omega)
  have h0 := World.rowIs_made w (.int .u8 0) n 5
  have g0 := (Grown.refl w).alloc (madeCells #[.int .u8 0] n) 5
  go_enter Try.func10, Try.ntmps10
  go_wp2
  clear hmk
  go_loopw [4] (fun i wr => ∃ k : Nat, k ≤ n ∧ i = .int .i64 k ∧ wr.rowIs w.heap.size 5 n (spRow k) ∧ Grown w wr) (fun i _ => n - (intOf i).toNat)
  case atStart => exact ⟨0, Nat.zero_le _, rfl, h0.congr (fun i hi => by simp [spRow]), g0⟩
  case round =>
    obtain ⟨k, hk, rfl, hrow, hg⟩ := hrel
    clear h0 g0
    by_cases hlt : k < n
    · have hc := hrow.cell hlt
      rw [spRow_at] at hc
      have hf := hrow.frozen k
      have R1 := (hrow.set k (.int .u8 32)).congr (g := spRow (k + 1)) (fun i _ => spRow_step k i)
      have R2 := hg.setCell (a := ⟨w.heap.size, k, none⟩) (Nat.le_refl _) (.int .u8 32)
      go_wp2
      go_roundw
      case rel => exact ⟨k + 1, by omega, by go_num, R1, R2⟩
      case measure => simp [intOf]; omega
    · obtain rfl : k = n := by omega
      have hcv := run_convert_bytes_arg (P := Try.prog) wr 26 5 Try.underlying26 Try.underlying5 w.heap.size 0 k k (List.replicate k 32) (by simp) (fun i hi => by rw [Nat.zero_add, hrow.cell hi]; simp [spRow, hi]) 9 Try.underlying9
      rw [sps_str] at hcv
      go_wp2
      go_ret
      exact ⟨rfl, hg⟩
end Go.Proofs.Qxb6605747a
