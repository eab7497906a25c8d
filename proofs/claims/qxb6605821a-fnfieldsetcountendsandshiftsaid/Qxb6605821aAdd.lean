/-
  The walks of valueSet.add, stepped, field.set, ZZfieldSet, zzBit.
-/
import Derived.Test.Qxb6605821aRows
import Derived.Test.Qxb6605821aPlain
import Derived.WalkKit
import Derived.WalkSpells
import Derived.RegionTactic
import Derived.BigRegion
import Derived.Laws.BitsAllLaws
import Derived.Deep.OwnRows
import Derived.Deep.Draws
namespace Go.Proofs.Qxb6605821a
open Go.RowKit

theorem below_drewN {B : Nat} {a w : World} (h : Below B a w) (n : Nat) : Below B a (w.drewN n) := h.trans ⟨rfl, rfl, rfl, Nat.le_refl _, fun _ _ => rfl⟩

/-- Cell j of a set's block. -/
def cellOf (a : Nat → Nat) (j : Nat) : Value := .int .u64 (a j : Int)

set_option maxHeartbeats 1000000 in
theorem add_any (G v : Nat) (a : Nat → Nat) (w : World) (hr : w.rowIs G 32 4 (cellOf a)) (ha : Pl.Words a) (hv : v < 256) :
    Calls Try.prog 21 #[.pointer (some ⟨G, 0, none⟩), .int .i64 v] w fun e w' => e = .returned (.tuple #[]) ∧ w' = (w.setCell ⟨G, v / 64, none⟩ (cellOf (Pl.addW a v) (v / 64))).drew := by
  have hc := hr.cell (show v / 64 < 4 by omega)
  have hf := hr.frozen (v / 64)
  have hb : (v : Int) / 64 < 4 := by omega
  have hb0 : 0 ≤ (v : Int) / 64 := by omega
  have ho := Pl.or_word ha v
  have HO : Hid (bits BinOp.or IntKind.u64 (a (v / 64) : Int) (IntKind.u64.wrap ((2 : Int) ^ (v % 64))) = ((Pl.addW a v (v / 64) : Nat) : Int)) := ho
  unfold cellOf at hc ⊢
  clear hr ha ho
  go_enter Try.func21, Try.ntmps21
  go_wp2
  go_region
  go_end0
  rw [HO.out]
  exact ⟨rfl, rfl⟩

theorem cell_step (a : Nat → Nat) (v i : Nat) : (if i = v / 64 then cellOf (Pl.addW a v) (v / 64) else cellOf a i) = cellOf (Pl.addW a v) i := by
  unfold cellOf Pl.addW
  by_cases h : i = v / 64
  · subst h; simp
  · simp [h]

set_option maxHeartbeats 1000000 in
theorem stepped_any (f l s : Int) (w : World) (hf : -4398046511104 ≤ f ∧ f ≤ 4398046511104) (hl : -4398046511104 ≤ l ∧ l ≤ 4398046511104) (hs : 1 ≤ s ∧ s ≤ 1099511627776) (hfl : f ≤ l → 0 ≤ f ∧ l ≤ 255) :
    Calls Try.prog 18 #[.int .i64 f, .int .i64 l, .int .i64 s] w fun e w' => (∃ a, Pl.IsSet a f l s ∧ e = .returned (.agg #[cellOf a 0, cellOf a 1, cellOf a 2, cellOf a 3])) ∧ Below w.heap.size w w' := by
  obtain ⟨hf1, hf2⟩ := hf
  obtain ⟨hl1, hl2⟩ := hl
  obtain ⟨hs1, hs2⟩ := hs
  have HF : Hid (f ≤ l → 0 ≤ f ∧ l ≤ 255) := hfl
  clear hfl
  have z : ∀ i, i < 4 → (#[Value.int .u64 0, .int .u64 0, .int .u64 0, .int .u64 0] : Array Value)[i]? = some (cellOf (fun _ => 0) i) := by
    intro i hi
    match i, hi with
    | 0, _ => rfl
    | 1, _ => rfl
    | 2, _ => rfl
    | 3, _ => rfl
  have r0 := (World.rowIs_alloc w #[Value.int .u64 0, .int .u64 0, .int .u64 0, .int .u64 0] 32 (cellOf (fun _ => 0)) z).alloc (.cells #[Value.int .u64 0, .int .u64 0, .int .u64 0, .int .u64 0] 32)
  have r1 := World.rowIs_alloc (w.alloc (.cells #[Value.int .u64 0, .int .u64 0, .int .u64 0, .int .u64 0] 32)) #[Value.int .u64 0, .int .u64 0, .int .u64 0, .int .u64 0] 32 (cellOf (fun _ => 0)) z
  have g0 := ((Below.refl w.heap.size w).alloc (Nat.le_refl _) (.cells #[Value.int .u64 0, .int .u64 0, .int .u64 0, .int .u64 0] 32)).alloc (by simp) (.cells #[Value.int .u64 0, .int .u64 0, .int .u64 0, .int .u64 0] 32)
  go_enter Try.func18, Try.ntmps18
  go_wp2
  go_loopw [8] (fun i wr => ∃ (t : Int) (k : Nat) (a : Nat → Nat), i = .int .i64 t ∧ t = f + k * s ∧ (k = 0 ∨ t - s ≤ l) ∧ Pl.Words a ∧ (∀ v, v < 256 → (Pl.mem a v = true ↔ Pl.MemTo f s k v)) ∧ wr.rowIs w.heap.size 32 4 (cellOf (fun _ => 0)) ∧ wr.rowIs (w.heap.size + 1) 32 4 (cellOf a) ∧ Below w.heap.size w wr) (fun i _ => (l + 1 - intOf i).toNat)
  case atStart => exact ⟨f, 0, fun _ => 0, rfl, by simp, Or.inl rfl, Pl.words_zero, fun v _ => by simp [Pl.mem_zero, Pl.memTo_zero], r0, by simpa using r1, g0⟩
  case round =>
    obtain ⟨t, k, a, rfl, ht0, hin0, ha0, hm0, hr0, hr1, hg⟩ := hrel
    clear r0 r1 g0 z
    have hks : 0 ≤ (k : Int) * s := Int.mul_nonneg (by omega) (by omega)
    have hft : f ≤ t := by omega
    have HT : Hid (t = f + k * s) := ht0
    have HI : Hid (k = 0 ∨ t - s ≤ l) := hin0
    have HA : Hid (Pl.Words a) := ha0
    have HM : Hid (∀ v, v < 256 → (Pl.mem a v = true ↔ Pl.MemTo f s k v)) := hm0
    clear ht0 hin0 ha0 hm0 hks
    by_cases hle : t ≤ l
    · obtain ⟨hb1, hb2⟩ := HF.out (by omega)
      obtain ⟨u, rfl⟩ := Int.eq_ofNat_of_zero_le (show 0 ≤ t by omega)
      have hu : u < 256 := by omega
      have R0 := hr0.setOther (a := ⟨w.heap.size + 1, u / 64, none⟩) (by simp) (cellOf (Pl.addW a u) (u / 64))
      have R1 := (hr1.set (u / 64) (cellOf (Pl.addW a u) (u / 64))).congr (fun i _ => cell_step a u i)
      have R2 := hg.setCell (p := ⟨w.heap.size + 1, u / 64, none⟩) (by simp) (cellOf (Pl.addW a u) (u / 64))
      go_wp2_with (go_at_call 21; refine (add_any _ _ _ _ hr1 HA.out hu).mono ?_; rintro e w' ⟨rfl, rfl⟩)
      go_roundw
      case rel =>
        refine ⟨_, k + 1, Pl.addW a u, rfl, ?_, Or.inr (by omega), Pl.words_add HA.out u, ?_, R0.drew, R1.drew, R2.drew⟩
        · have := HT.out
          rw [Int.natCast_add, Int.add_mul]
          omega
        · intro v hv
          rw [Pl.mem_add, Bool.or_eq_true, HM.out v hv, Pl.memTo_succ, ← HT.out, decide_eq_true_eq]
          constructor <;> (rintro (h | h) <;> first | exact Or.inl h | (right; omega))
      case measure => simp [intOf]; omega
    · have c0 := hr1.cell (i := 0) (by omega)
      have c1 := hr1.cell (i := 1) (by omega)
      have c2 := hr1.cell (i := 2) (by omega)
      have c3 := hr1.cell (i := 3) (by omega)
      have d0 := hr0.cell (i := 0) (by omega)
      have d1 := hr0.cell (i := 1) (by omega)
      have d2 := hr0.cell (i := 2) (by omega)
      have d3 := hr0.cell (i := 3) (by omega)
      have f0 := hr0.frozen 0
      have f1 := hr0.frozen 1
      have f2 := hr0.frozen 2
      have f3 := hr0.frozen 3
      have hset : Pl.IsSet a f l s := ⟨HA.out, fun v hv => by rw [HM.out v hv]; exact Pl.mem_of_to hs1 (by rw [← HT.out]; omega) (by rw [← HT.out]; exact HI.out) v⟩
      have HS : Hid (Pl.IsSet a f l s) := hset
      clear hset
      unfold cellOf at c0 c1 c2 c3 d0 d1 d2 d3
      have B := (((hg.setCell (p := ⟨w.heap.size, 0, none⟩) (Nat.le_refl _) (cellOf a 0)).setCell (p := ⟨w.heap.size, 1, none⟩) (Nat.le_refl _) (cellOf a 1)).setCell (p := ⟨w.heap.size, 2, none⟩) (Nat.le_refl _) (cellOf a 2)).setCell (p := ⟨w.heap.size, 3, none⟩) (Nat.le_refl _) (cellOf a 3)
      unfold cellOf at B
      go_wp2
      refine bodyPost_ret (v := .agg #[cellOf a 0, cellOf a 1, cellOf a 2, cellOf a 3]) ?_ rfl ⟨⟨a, HS.out, rfl⟩, ?_⟩
      · simp [results, Try.results18, go_sem, d0, d1, d2, d3, cellOf]
      · exact B
end Go.Proofs.Qxb6605821a
