/-
  zzb1Pairs, zzb1Same.
-/
import Derived.Test.Qxb6605809aDoorWalks
namespace Go.Proofs.Qxb6605809aDoor
open Go.RowKit

theorem info5 : (Tryd.prog.info? 5).map (fun i => (i.zero, i.size, i.bytes)) = some (some (.int .u8 0), 1, 1) := by kernel_rfl

/-- What the row of the pairs holds behind k rounds. -/
def pRow (D : List UInt8) (k i : Nat) : Value := if i < k then .int .u8 ((D[i]?.getD 0).toNat : Int) else .int .u8 0

theorem pRow_step {D : List UInt8} {k : Nat} {b : UInt8} (h : D[k]? = some b) (i : Nat) : (if i = k then Value.int .u8 (b.toNat : Int) else pRow D k i) = pRow D (k + 1) i := by
  unfold pRow
  by_cases e : i = k
  · subst e
    rw [if_pos rfl, if_pos (by omega), h]
    rfl
  · rw [if_neg e]
    by_cases h2 : i < k
    · rw [if_pos h2, if_pos (by omega)]
    · rw [if_neg h2, if_neg (by omega)]

set_option maxHeartbeats 400000 in
theorem pairs_any (s : ByteArray) (w : World) (hs : s.size ≤ 1048576) :
    Calls Tryd.prog 8 #[.string s] w fun e w' => e = .returned (.slice (some ⟨w.heap.size, 0, none⟩) (s.size / 2) (s.size / 2)) ∧
      w'.rowIs w.heap.size 5 (s.size / 2) (pRow (Pl.pairs s.data.toList) (s.size / 2)) ∧ Below w.heap.size w w' := by
  have hmk := run_make_row' (P := Tryd.prog) 23 5 (.int .u8 0) 1 Tryd.underlying23 info5 rfl .i64 .i64 (s.size / 2) (by omega) (by omega)
  have e2 : ((s.size / 2 : Nat) : Int) = (s.size : Int) / 2 := by omega
  rw [e2] at hmk
  have h0 := World.rowIs_made w (.int .u8 0) (s.size / 2) 5
  have g0 := (Below.refl w.heap.size w).alloc (Nat.le_refl _) (.cells (madeCells #[.int .u8 0] (s.size / 2)) 5)
  go_enter Tryd.func8, Tryd.ntmps8
  go_wp2
  clear hmk e2
  go_loopw [4] (fun i wr => ∃ k : Nat, k ≤ s.size / 2 ∧ i = .int .i64 k ∧ wr.rowIs w.heap.size 5 (s.size / 2) (pRow (Pl.pairs s.data.toList) k) ∧ Below w.heap.size w wr) (fun i _ => s.size / 2 - (intOf i).toNat)
  case atStart => exact ⟨0, Nat.zero_le _, rfl, h0.congr (fun i hi => by simp [pRow]), g0⟩
  case round =>
    obtain ⟨k, hk, rfl, hrow, hg⟩ := hrel
    clear h0 g0
    by_cases hlt : k < s.size / 2
    · have hc := hrow.cell hlt
      have hf := hrow.frozen k
      have b1 : 2 * k < s.size := by omega
      have b2 : 2 * k + 1 < s.size := by omega
      have l1 := Pl.nib_le s[2 * k]
      have l2 := Pl.nib_le s[2 * k + 1]
      have hp := Pl.pairs_at s.data.toList k (sz b2)
      have HP : Hid ((Pl.pairs s.data.toList)[k]? = some (UInt8.ofNat ((Pl.nib s[2 * k]).1 * 16 + (Pl.nib s[2 * k + 1]).1))) := hp
      clear hp
      generalize hN1 : Pl.nib s[2 * k] = N1 at l1 HP
      generalize hN2 : Pl.nib s[2 * k + 1] = N2 at l2 HP
      have H1 : Hid (Pl.nib s[2 * k] = N1) := hN1
      have H2 : Hid (Pl.nib s[2 * k + 1] = N2) := hN2
      clear hN1 hN2
      go_wp2_with fail
      refine (nib_any _ _).mono ?_
      rintro e w1 ⟨rfl, rfl⟩
      rw [H1.out]
      go_wp2_with fail
      refine (nib_any _ _).mono ?_
      rintro e w1 ⟨rfl, rfl⟩
      rw [H2.out]
      go_wp2
      have hb : bits BinOp.or IntKind.u8 ((N1.fst : Int) * 16) (N2.fst : Int) = ((UInt8.ofNat (N1.fst * 16 + N2.fst)).toNat : Int) := by
        exact Lib.Hx.or_digits _ _ (by omega) (by omega)
      rw [hb]
      go_roundw
      case rel => exact ⟨k + 1, by omega, by go_num, (hrow.set k _).congr (fun i _ => pRow_step HP.out i), hg.setCell (Nat.le_refl _) _⟩
      case measure => simp [intOf]; omega
    · obtain rfl : k = s.size / 2 := by omega
      go_wp2
      go_ret
      exact ⟨rfl, hrow, hg⟩

theorem below_drewN {B : Nat} {a w : World} (h : Below B a w) (n : Nat) : Below B a (w.drewN n) := h.trans ⟨rfl, rfl, rfl, Nat.le_refl _, fun _ _ => rfl⟩

set_option maxHeartbeats 400000 in
/-- zzb1Same at two rows that hold the same. -/
theorem same_any (b1 b2 n c1 c2 : Nat) (f : Nat → Int) (w : World) (hn : n ≤ 1048576)
    (h1 : ∀ i, i < n → w.cell? ⟨b1, i, none⟩ = some (.int .u8 (f i))) (h2 : ∀ i, i < n → w.cell? ⟨b2, i, none⟩ = some (.int .u8 (f i))) :
    Calls Tryd.prog 9 #[.slice (some ⟨b1, 0, none⟩) n c1, .slice (some ⟨b2, 0, none⟩) n c2] w fun e w' => e = .returned (.bool true) ∧ ∃ q, w' = w.drewN q := by
  go_enter Tryd.func9, Tryd.ntmps9
  go_wp2
  go_loopw [5] (fun i wr => ∃ k : Nat, k ≤ n ∧ i = .int .i64 k ∧ ∃ q, wr = w.drewN q) (fun i _ => n - (intOf i).toNat)
  case atStart => exact ⟨0, Nat.zero_le _, rfl, 0, rfl⟩
  case round =>
    obtain ⟨k, hk, rfl, q, rfl⟩ := hrel
    by_cases hlt : k < n
    · have g1 := h1 k hlt
      have g2 := h2 k hlt
      have hkn : (k : Int) < (n : Int) := by omega
      clear h1 h2
      go_wp2
      go_quiet (fail)
      go_wp2
      go_roundw
      case rel => exact ⟨k + 1, by omega, by go_num, _, rfl⟩
      case measure => simp [intOf]; omega
    · clear h1 h2
      go_wp2
      go_ret
      exact ⟨rfl, q, rfl⟩
end Go.Proofs.Qxb6605809aDoor
