/-
  The walks over the slice of strings: zzBytes.., zzCopyStrings.
-/
import Derived.Test.Qxb6605821aSet
import Derived.Lib.SliceRun
namespace Go.Proofs.Qxb6605821a
open Go.RowKit

/-- What the walks are told of the slice of strings: its elements are the strings S. -/
def Strs (w : World) (a : Option Addr) (len : Nat) (S : Nat → ByteArray) : Prop :=
  ∀ i, i < len → ∃ b off, a = some ⟨b, off, none⟩ ∧ w.cell? ⟨b, off + i, none⟩ = some (.string (S i))

/-- The lengths that the guards let by. -/
def Small (nm : ByteArray) (len : Nat) (S : Nat → ByteArray) : Prop := nm.size ≤ 1048576 ∧ len ≤ 1048576 ∧ ∀ i, i < len → (S i).size ≤ 1048576

/-- How zzBytes.. ends: some bool; where it is true the lengths are small. -/
def Guarded (nm : ByteArray) (len : Nat) (S : Nat → ByteArray) (w : World) (e : Ending) (w' : World) : Prop := ∃ r : Bool, e = .returned (.bool r) ∧ w' = w ∧ (r = true → Small nm len S)
theorem guarded_no {nm : ByteArray} {len : Nat} {S : Nat → ByteArray} {w : World} : Guarded nm len S w (.returned (.bool false)) w := ⟨false, rfl, rfl, fun h => by cases h⟩
theorem guarded_yes {nm : ByteArray} {len : Nat} {S : Nat → ByteArray} {w : World} (h : Small nm len S) : Guarded nm len S w (.returned (.bool true)) w := ⟨true, rfl, rfl, fun _ => h⟩

set_option maxHeartbeats 1000000 in
theorem bytes9 (nm : ByteArray) (mn mx base : Int) (a : Option Addr) (len cap : Nat) (S : Nat → ByteArray) (lo hi s : Int) (w : World) (hnm : nm.size ≤ maxLen) (hlen : len ≤ maxLen) (hS : Strs w a len S) :
    Calls Try.prog 9 #[.string nm, .int .i64 mn, .int .i64 mx, .int .i64 base, .slice a len cap, .int .i64 lo, .int .i64 hi, .int .i64 s] w fun e w' => Guarded nm len S w e w' := by
  unfold maxLen at hnm hlen
  by_cases h1 : nm.size ≤ 1048576
  · by_cases h2 : len ≤ 1048576
    · by_cases h3 : nm.size + len ≤ 1048576
      · go_enter Try.func9, Try.ntmps9
        go_wp2
        go_loop [17, 18] (fun n i => ∃ (k : Nat) (t : Int), k ≤ len ∧ i = .int .i64 k ∧ n = .int .i64 t ∧ 0 ≤ t ∧ t ≤ 1048576 ∧ ∀ j, j < k → (S j).size ≤ 1048576) (fun _ i => len - (intOf i).toNat)
        case atStart => exact ⟨0, _, Nat.zero_le _, rfl, rfl, by omega, by omega, fun j hj => absurd hj (Nat.not_lt_zero _)⟩
        case round =>
          obtain ⟨k, t, hk, rfl, rfl, ht0, ht1, hj⟩ := hrel
          by_cases hlt : k < len
          · obtain ⟨b, off, rfl, hc⟩ := hS k hlt
            have HJ : Hid (∀ j, j < k → (S j).size ≤ 1048576) := hj
            clear hS hj
            by_cases hsz : (S k).size ≤ 1048576
            · have HJ2 : Hid (∀ j, j < k + 1 → (S j).size ≤ 1048576) := fun j hj => by
                by_cases e : j = k
                · subst e; exact hsz
                · exact HJ.out j (by omega)
              by_cases hsum : t + ((S k).size : Int) ≤ 1048576
              · go_wp2
                go_round
                case rel => exact ⟨k + 1, _, by omega, by go_num, rfl, by omega, by omega, HJ2.out⟩
                case measure => simp [intOf]; omega
              · go_wp2
                go_ret
                exact guarded_no
            · go_wp2
              go_ret
              exact guarded_no
          · obtain rfl : k = len := by omega
            have HJ : Hid (Small nm k S) := ⟨h1, h2, hj⟩
            clear hS hj
            go_wp2
            go_ret
            exact guarded_yes HJ.out
      · clear hS
        go_enter Try.func9, Try.ntmps9
        go_wp2
        go_ret
        exact guarded_no
    · clear hS
      go_enter Try.func9, Try.ntmps9
      go_wp2
      go_ret
      exact guarded_no
  · clear hS
    go_enter Try.func9, Try.ntmps9
    go_wp2
    go_ret
    exact guarded_no

theorem info9 : (Try.prog.info? 9).map (fun i => (i.zero, i.size, i.bytes)) = some (some (.string ⟨#[]⟩), 1, 16) := by kernel_rfl

set_option maxHeartbeats 1000000 in
/-- zzCopyStrings: some slice; nothing that was there has turned. -/
theorem copy_any (a : Option Addr) (len cap : Nat) (S : Nat → ByteArray) (w : World) (hlen : len ≤ 1048576) (hS : Strs w a len S) :
    Calls Try.prog 10 #[.slice a len cap] w fun e w' => ∃ a' n' c', e = .returned (.slice a' n' c') ∧ Below w.heap.size w w' := by
  have hnil := fun wx => Lib.run_eql_slice_nil (P := Try.prog) wx 23 9 a len cap 0 0 Try.underlying23
  cases a with
  | none =>
    clear hS
    go_enter Try.func10, Try.ntmps10
    go_wp2
    go_ret
    exact ⟨_, _, _, rfl, Below.refl _ _⟩
  | some x =>
    have hmk := run_make_row' (P := Try.prog) 23 9 (.string ⟨#[]⟩) 16 Try.underlying23 info9 rfl .i64 .i64 len (by omega) (by omega)
    have r0 := World.rowIs_made w (.string ⟨#[]⟩) len 9
    have g0 := (Below.refl w.heap.size w).alloc (Nat.le_refl _) (.cells (madeCells #[.string ⟨#[]⟩] len) 9)
    have HS : Hid (Strs w (some x) len S) := hS
    clear hS
    go_enter Try.func10, Try.ntmps10
    go_wp2
    clear hmk hnil
    go_loopw [4] (fun i wr => ∃ (k : Nat) (f : Nat → Value), k ≤ len ∧ i = .int .i64 k ∧ wr.rowIs w.heap.size 9 len f ∧ Below w.heap.size w wr) (fun i _ => len - (intOf i).toNat)
    case atStart => exact ⟨0, _, Nat.zero_le _, rfl, r0, g0⟩
    case round =>
      obtain ⟨k, f, hk, rfl, hr, hb⟩ := hrel
      clear r0 g0
      by_cases hlt : k < len
      · obtain ⟨b, off, e, hc0⟩ := HS.out k hlt
        obtain rfl := Option.some.inj e
        have hc : wr.cell? ⟨b, off + k, none⟩ = some (.string (S k)) := (hb.cell (World.block_lt_of_cell? w _ hc0)).trans hc0
        have hd := hr.cell hlt
        have hf := hr.frozen k
        have R1 := hr.set k (.string (S k))
        have R2 := hb.setCell (p := ⟨w.heap.size, k, none⟩) (Nat.le_refl _) (.string (S k))
        clear hc0 e
        go_wp2
        go_roundw
        case rel => exact ⟨k + 1, _, by omega, by go_num, R1, R2⟩
        case measure => simp [intOf]; omega
      · go_wp2
        go_ret
        exact ⟨_, _, _, rfl, hb⟩
end Go.Proofs.Qxb6605821a
