/-
  The contracts in the forms in which the laws use them.
-/
import Derived.Test.Qxb6605921aBytes
namespace Go.Proofs.Qxb6605921a
open Go.RowKit

theorem varintLen_any (k : Nat) (w : World) :
    Calls Try.prog 16 #[.int .u64 k] w fun e w' => e = .returned (.int .i64 (Pl.vlen k : Int)) ∧ w' = w := by
  unfold Pl.vlen
  by_cases a1 : k < 128
  · rw [if_pos a1]; exact (vl1 k w (by omega)).mono fun e w' h => ⟨h.1, h.2⟩
  rw [if_neg a1]
  by_cases a2 : k < 16384
  · rw [if_pos a2]; exact (vl2 k w (by omega) (by omega)).mono fun e w' h => ⟨h.1, h.2⟩
  rw [if_neg a2]
  by_cases a3 : k < 2097152
  · rw [if_pos a3]; exact (vl3 k w (by omega) (by omega)).mono fun e w' h => ⟨h.1, h.2⟩
  rw [if_neg a3]
  by_cases a4 : k < 268435456
  · rw [if_pos a4]; exact (vl4 k w (by omega) (by omega)).mono fun e w' h => ⟨h.1, h.2⟩
  rw [if_neg a4]
  by_cases a5 : k < 34359738368
  · rw [if_pos a5]; exact (vl5 k w (by omega) (by omega)).mono fun e w' h => ⟨h.1, h.2⟩
  rw [if_neg a5]
  by_cases a6 : k < 4398046511104
  · rw [if_pos a6]; exact (vl6 k w (by omega) (by omega)).mono fun e w' h => ⟨h.1, h.2⟩
  rw [if_neg a6]
  by_cases a7 : k < 562949953421312
  · rw [if_pos a7]; exact (vl7 k w (by omega) (by omega)).mono fun e w' h => ⟨h.1, h.2⟩
  rw [if_neg a7]
  by_cases a8 : k < 72057594037927936
  · rw [if_pos a8]; exact (vl8 k w (by omega) (by omega)).mono fun e w' h => ⟨h.1, h.2⟩
  rw [if_neg a8]
  by_cases a9 : k < 9223372036854775808
  · rw [if_pos a9]; exact (vl9 k w (by omega) (by omega)).mono fun e w' h => ⟨h.1, h.2⟩
  rw [if_neg a9]
  exact (vl10 k w (by omega)).mono fun e w' h => ⟨h.1, h.2⟩

/-- The bytes l lie in block g from its head on, as far as n. -/
def At (w : World) (g : Nat) (l : List UInt8) : Prop := ∀ i, i < l.length → w.cell? ⟨g, i, none⟩ = some (bv l i)
theorem At.below {w w' : World} {g : Nat} {l : List UInt8} (h : At w g l) (hb : Below w.heap.size w w') : At w' g l := fun i hi => (hb.cell (World.block_lt_of_cell? w _ (h i hi))).trans (h i hi)
theorem At.drewN {w : World} {g : Nat} {l : List UInt8} (h : At w g l) (q : Nat) : At (w.drewN q) g l := h
theorem Bts.drewN {w : World} {a : Option Addr} {l : List UInt8} (h : Bts w a l) (q : Nat) : Bts (w.drewN q) a l := h
theorem At.bts {w : World} {g : Nat} {l : List UInt8} (h : At w g l) : Bts w (some ⟨g, 0, none⟩) l := fun i hi => ⟨g, 0, rfl, by rw [Nat.zero_add]; exact h i hi⟩
theorem bv_left {l r : List UInt8} {i : Nat} (h : i < l.length) : bv (l ++ r) i = bv l i := by unfold bv; rw [List.getElem?_append_left h]
theorem bv_right {l r : List UInt8} {i : Nat} : bv (l ++ r) (l.length + i) = bv r i := by unfold bv; rw [List.getElem?_append_right (by omega), Nat.add_sub_cancel_left]
/-- The opening of a longer text. -/
theorem At.head {w : World} {g : Nat} {l r : List UInt8} (h : At w g (l ++ r)) : Bts w (some ⟨g, 0, none⟩) l := fun i hi => ⟨g, 0, rfl, by
  rw [Nat.zero_add, h i (by rw [List.length_append]; omega), bv_left hi]⟩
/-- .. and the rest. -/
theorem At.tail {w : World} {g : Nat} {l r : List UInt8} (h : At w g (l ++ r)) : Bts w (some ⟨g, l.length, none⟩) r := fun i hi => ⟨g, l.length, rfl, by
  rw [h (l.length + i) (by rw [List.length_append]; omega), bv_right]⟩

/-- How ZZB1appendDouble ends, the bytes told. -/
def Made (l : List UInt8) (n : Nat) (w : World) (e : Ending) (w' : World) : Prop := ∃ g cap, e = .returned (.slice (some ⟨g, 0, none⟩) n cap) ∧ n ≤ cap ∧ cap ≤ maxLen ∧ At w' g l ∧ Below w.heap.size w w'

theorem rec_pos (f : Int) (d : Nat) : 9 ≤ (Pl.recOf f d).length ∧ (Pl.recOf f d).length ≤ 18 := by
  rw [Pl.rec_length]
  have := Pl.vlen_le (Pl.key f)
  omega

theorem made_of {B m : Nat} {l : List UInt8} {w w' : World} {e : Ending} (h : Owned B m (Lib.byteCells l) w e w') (hB : B = w.heap.size) (hm : 0 < m) : Made l m w e w' := by
  obtain ⟨v, rfl, h1, h2⟩ := h
  obtain ⟨g, cap, rfl, h3, h4, h5, h6⟩ := owned_open h1 hm
  subst hB
  exact ⟨g, cap, rfl, h3, h4, fun i hi => h6 i (by omega), h2⟩

theorem dbl_nil (f : Int) (d : Nat) (w : World) (hd : d < 18446744073709551616) :
    Calls Try.prog 10 #[.slice none 0 0, .int .i64 f, .float .f64 d] w fun e w' => Made (Pl.recOf f d) (Pl.recOf f d).length w e w' := by
  have hp := rec_pos f d
  refine (dbl_own w.heap.size 0 f d _ [] w hd (World.ownsRow_nil _ _ _ _) (Nat.le_refl _) (by omega)).mono fun e w' h => ?_
  rw [Nat.zero_add, List.nil_append] at h
  exact made_of h rfl (by omega)

theorem cells_join (l r : List UInt8) : Lib.byteCells l ++ Lib.byteCells r = Lib.byteCells (l ++ r) := by unfold Lib.byteCells; rw [List.map_append]

theorem dbl_room (f : Int) (d : Nat) (a : Option Addr) (l : List UInt8) (w : World) (hd : d < 18446744073709551616) (hl : l.length ≤ 1048576) (hn : a = none → l = []) (hb : Bts w a l) :
    Calls Try.prog 10 #[.slice a l.length l.length, .int .i64 f, .float .f64 d] w fun e w' => Made (l ++ Pl.recOf f d) (l.length + (Pl.recOf f d).length) w e w' := by
  have hp := rec_pos f d
  refine (dbl_full l.length f d a _ w hd (hb.full hn) (by omega)).mono fun e w' h => ?_
  rw [cells_join] at h
  exact made_of h rfl (by omega)

theorem equal_n (a1 a2 : Option Addr) (n1 n2 c1 c2 : Nat) (l1 l2 : List UInt8) (w : World) (e1 : l1.length = n1) (e2 : l2.length = n2) (hn1 : n1 ≤ 2097152) (hn2 : n2 ≤ 2097152) (h1 : Bts w a1 l1) (h2 : Bts w a2 l2) :
    Calls Try.prog 11 #[.slice a1 n1 c1, .slice a2 n2 c2] w fun e w' => e = .returned (.bool (decide (l1 = l2))) ∧ ∃ q, w' = w.drewN q := by
  subst e1; subst e2
  exact equal_any a1 a2 c1 c2 l1 l2 w hn1 hn2 h1 h2
end Go.Proofs.Qxb6605921a
