/-
  The walks of field.set, ZZfieldSet, zzBit.
-/
import Derived.Test.Qxb6605821aAdd
namespace Go.Proofs.Qxb6605821a
open Go.RowKit

/-- A set as a value. -/
def setV (a : Nat → Nat) : Value := .agg #[.int .u64 (a 0 : Int), .int .u64 (a 1 : Int), .int .u64 (a 2 : Int), .int .u64 (a 3 : Int)]

/-- The bounds under which the set is asked for. -/
structure Fits (f l s : Int) : Prop where
  f1 : -4398046511104 ≤ f
  f2 : f ≤ 4398046511104
  l1 : -4398046511104 ≤ l
  l2 : l ≤ 4398046511104
  s1 : 1 ≤ s
  s2 : s ≤ 1099511627776
  fl : f ≤ l → 0 ≤ f ∧ l ≤ 255

theorem stepped_any' (f l s : Int) (w : World) (h : Fits f l s) :
    Calls Try.prog 18 #[.int .i64 f, .int .i64 l, .int .i64 s] w fun e w' => ∃ a, Pl.IsSet a f l s ∧ e = .returned (setV a) ∧ Below w.heap.size w w' := by
  refine (stepped_any f l s w ⟨h.f1, h.f2⟩ ⟨h.l1, h.l2⟩ ⟨h.s1, h.s2⟩ h.fl).mono ?_
  rintro e w' ⟨⟨a, ha, rfl⟩, hb⟩
  exact ⟨a, ha, rfl, hb⟩

set_option maxHeartbeats 1000000 in
theorem set_any (nm : ByteArray) (mn mx base : Int) (na : Option Addr) (nl nc : Nat) (lo hi s : Int) (w : World) (b1 : -1099511627777 ≤ base) (b2 : base ≤ 1099511627777) (l1 : -1099511627777 ≤ lo) (l2 : lo ≤ 1099511627777) (h1 : -1099511627777 ≤ hi) (h2 : hi ≤ 1099511627777) (h : Fits (lo - base) (hi - base) s) :
    Calls Try.prog 15 #[.agg #[.string nm, .int .i64 mn, .int .i64 mx, .int .i64 base, .slice na nl nc], .int .i64 lo, .int .i64 hi, .int .i64 s] w fun e w' => ∃ a, Pl.IsSet a (lo - base) (hi - base) s ∧ e = .returned (setV a) ∧ Below w.heap.size w w' := by
  go_enter Try.func15, Try.ntmps15
  go_wp2_with fail
  refine (stepped_any' _ _ _ _ h).mono ?_
  rintro e w1 ⟨a, ha, rfl, hb⟩
  have c := fun j => hb.cell (p := ⟨w.heap.size + 1, j, none⟩) (by simp)
  have f := fun j => hb.frozen (p := ⟨w.heap.size + 1, j, none⟩) (by simp)
  have c0 : w1.cell? ⟨w.heap.size + 1, 0, none⟩ = some (.int .u64 0) := by rw [c 0]; simp
  have c1 : w1.cell? ⟨w.heap.size + 1, 1, none⟩ = some (.int .u64 0) := by rw [c 1]; simp
  have c2 : w1.cell? ⟨w.heap.size + 1, 2, none⟩ = some (.int .u64 0) := by rw [c 2]; simp
  have c3 : w1.cell? ⟨w.heap.size + 1, 3, none⟩ = some (.int .u64 0) := by rw [c 3]; simp
  have f0 : w1.frozen? ⟨w.heap.size + 1, 0, none⟩ = false := by rw [f 0]; simp
  have f1 : w1.frozen? ⟨w.heap.size + 1, 1, none⟩ = false := by rw [f 1]; simp
  have f2 : w1.frozen? ⟨w.heap.size + 1, 2, none⟩ = false := by rw [f 2]; simp
  have f3 : w1.frozen? ⟨w.heap.size + 1, 3, none⟩ = false := by rw [f 3]; simp
  have HA : Hid (Pl.IsSet a (lo - base) (hi - base) s) := ha
  clear ha c f
  unfold setV
  go_wp2
  refine bodyPost_ret (v := setV a) ?_ rfl ⟨a, HA.out, rfl, ?_⟩
  · simp [results, Try.results15, go_sem, c0, c1, c2, c3, setV]
  · have B := (((Below.refl w.heap.size w).alloc (Nat.le_refl _) _).alloc (by simp) _).trans (hb.mono (by simp; omega))
    exact (((B.setCell (by simp) _).setCell (by simp) _).setCell (by simp) _).setCell (by simp) _

set_option maxHeartbeats 1000000 in
/-- ZZfieldSet. -/
theorem fieldSet_any (nm : ByteArray) (mn mx base : Int) (na : Option Addr) (nl nc : Nat) (lo hi s : Int) (w : World) (b1 : -1099511627777 ≤ base) (b2 : base ≤ 1099511627777) (l1 : -1099511627777 ≤ lo) (l2 : lo ≤ 1099511627777) (h1 : -1099511627777 ≤ hi) (h2 : hi ≤ 1099511627777) (h : Fits (lo - base) (hi - base) s) :
    Calls Try.prog 11 #[.string nm, .int .i64 mn, .int .i64 mx, .int .i64 base, .slice na nl nc, .int .i64 lo, .int .i64 hi, .int .i64 s] w fun e w' => ∃ a, Pl.IsSet a (lo - base) (hi - base) s ∧ e = .returned (setV a) ∧ Below w.heap.size w w' := by
  go_enter Try.func11, Try.ntmps11
  go_wp2_with fail
  refine (set_any _ _ _ _ _ _ _ _ _ _ _ b1 b2 l1 l2 h1 h2 h).mono ?_
  rintro e w1 ⟨a, ha, rfl, hb⟩
  have c := fun j => hb.cell (p := ⟨w.heap.size, j, none⟩) (by simp; omega)
  have f := fun j => hb.frozen (p := ⟨w.heap.size, j, none⟩) (by simp; omega)
  have c0 : w1.cell? ⟨w.heap.size, 0, none⟩ = some (.int .u64 0) := by rw [c 0]; simp
  have c1 : w1.cell? ⟨w.heap.size, 1, none⟩ = some (.int .u64 0) := by rw [c 1]; simp
  have c2 : w1.cell? ⟨w.heap.size, 2, none⟩ = some (.int .u64 0) := by rw [c 2]; simp
  have c3 : w1.cell? ⟨w.heap.size, 3, none⟩ = some (.int .u64 0) := by rw [c 3]; simp
  have f0 : w1.frozen? ⟨w.heap.size, 0, none⟩ = false := by rw [f 0]; simp
  have f1 : w1.frozen? ⟨w.heap.size, 1, none⟩ = false := by rw [f 1]; simp
  have f2 : w1.frozen? ⟨w.heap.size, 2, none⟩ = false := by rw [f 2]; simp
  have f3 : w1.frozen? ⟨w.heap.size, 3, none⟩ = false := by rw [f 3]; simp
  have HA : Hid (Pl.IsSet a (lo - base) (hi - base) s) := ha
  clear ha c f
  unfold setV
  go_wp2
  refine bodyPost_ret (v := setV a) ?_ rfl ⟨a, HA.out, rfl, ?_⟩
  · simp [results, Try.results11, go_sem, c0, c1, c2, c3, setV]
  · have B := (((Below.refl w.heap.size w).alloc (Nat.le_refl _) _).alloc (by simp) _).trans (hb.mono (by simp; omega))
    exact (((B.setCell (by simp) _).setCell (by simp) _).setCell (by simp) _).setCell (by simp) _

set_option maxHeartbeats 1000000 in
/-- zzBit. -/
theorem bit_any (a : Nat → Nat) (v : Nat) (w : World) (ha : Pl.Words a) (hv : v < 256) :
    Calls Try.prog 12 #[setV a, .int .i64 v] w fun e w' => e = .returned (.bool (Pl.mem a v)) ∧ Below w.heap.size w w' := by
  have hc : (w.alloc (.cells #[.int .u64 (a 0 : Int), .int .u64 (a 1 : Int), .int .u64 (a 2 : Int), .int .u64 (a 3 : Int)] 27)).cell? ⟨w.heap.size, v / 64, none⟩ = some (.int .u64 (a (v / 64) : Int)) := by
    have hlt : v / 64 < 4 := by omega
    generalize v / 64 = j at hlt
    match j, hlt with
    | 0, _ => simp
    | 1, _ => simp
    | 2, _ => simp
    | 3, _ => simp
  have hb : (v : Int) / 64 < 4 := by omega
  have hb0 : 0 ≤ (v : Int) / 64 := by omega
  unfold setV
  go_enter Try.func12, Try.ntmps12
  go_wp2
  go_ret
  refine ⟨?_, (Below.refl _ _).alloc (Nat.le_refl _) _⟩
  exact congrArg (fun b => Ending.returned (Value.bool b)) (Pl.bit_word _ _ (ha _))
end Go.Proofs.Qxb6605821a
