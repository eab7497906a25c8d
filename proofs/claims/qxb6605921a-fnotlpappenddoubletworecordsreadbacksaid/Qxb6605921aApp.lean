/-
  The walks of appendTag, appendDouble, ZZB1appendDouble: onto a slice that the call owns; onto one without room.
-/
import Derived.Test.Qxb6605921aRows
import Derived.Test.Qxb6605921aShelf
import Derived.Test.Qxb6605921aPlain
import Derived.WalkKit
import Derived.WalkSpells
import Derived.Laws.BitsAllLaws
import Derived.Laws.Externs
import Derived.ArgAppend
import Derived.OwnWalk
import Derived.Lib.VarintMem
import Derived.Deep.Onto
import Derived.Deep.RegionWith
namespace Go.Proofs.Qxb6605921a
open Go.RowKit

theorem bits_call (b : Nat) (w : World) : (callFunc 14 #[.float .f64 b]).run Try.prog w = .ok (.value (.int .u64 (b : Int))) w := by
  rw [run_callFunc_extern (e := Extern.MathFloatBits.float64bits) Try.func14 (by kernel_rfl) (by kernel_rfl) (by kernel_rfl) (by kernel_rfl)]
  rfl
theorem info5 : (Try.prog.info? 5).map (fun i => (i.zero, i.size, i.bytes)) = some (some (.int .u8 0), 1, 1) := by kernel_rfl

/-- What stands behind an append: the value owns the bytes; below B nothing has turned. -/
def Owned (B : Nat) (n : Nat) (xs : List Value) (w : World) (e : Ending) (w' : World) : Prop := ∃ v', e = .returned v' ∧ w'.ownsRow B 5 1 v' n xs ∧ Below B w w'
theorem Owned.mk {B n : Nat} {xs : List Value} {w w' : World} {v' : Value} (h1 : w'.ownsRow B 5 1 v' n xs) (h2 : Below B w w') : Owned B n xs w (.returned v') w' := ⟨v', rfl, h1, h2⟩

/-- A slice without room: as it came. -/
structure Full (w : World) (ao : Option Addr) (n : Nat) (olds : List Value) : Prop where
  nil : ao = none → n = 0
  len : olds.length = n
  cells : ∀ b, ao = some b → ∀ j u, olds[j]? = some u → w.cell? (b.add j) = some u

theorem Full.alloc {w : World} {ao : Option Addr} {n : Nat} {olds : List Value} (h : Full w ao n olds) (o : Obj) : ∀ b, ao = some b → ∀ j u, olds[j]? = some u → (w.alloc o).cell? (b.add j) = some u := fun b hb j u hj => by
  have hc := h.cells b hb j u hj
  exact (((Below.refl w.heap.size w).alloc (Nat.le_refl _) o).cell (World.block_lt_of_cell? w _ hc)).trans hc

set_option maxHeartbeats 2000000 in
set_option maxRecDepth 100000 in
/-- binary.AppendUvarint onto a slice without room: the first byte makes a new array; nothing that was there turns. -/
theorem uvarint_full (n x : Nat) (hx : x < 18446744073709551616) (ao : Option Addr) (olds : List Value) (w : World) (hfull : Full w ao n olds) (hlim : n + 10 ≤ 140737488355328) :
    Calls Try.prog 22 #[.slice ao n n, .int .u64 x] w fun e w' => Owned w.heap.size (n + (Lib.uvarint x).length) (olds ++ Lib.byteCells (Lib.uvarint x)) w e w' := by
  obtain ⟨i0, hi, hz0, hz1, hz2⟩ := info_parts info5
  have hlen := Lib.uvarint_length64 hx
  go_enter Try.func22, Try.ntmps22
  go_wp2
  go_loopw [0, 1] (fun vb vx wr => ∃ (y : Nat) (pre : List UInt8), vx = .int .u64 y ∧ y ≤ x ∧ Lib.uvarint x = pre ++ Lib.uvarint y ∧ ((pre = [] ∧ vb = .slice ao n n ∧ w = wr) ∨ (wr.ownsRow w.heap.size 5 1 vb (n + pre.length) (olds ++ Lib.byteCells pre) ∧ Below w.heap.size w wr)))
    (fun _ vx _ => (intOf vx).toNat)
  case atStart => exact ⟨x, [], rfl, Nat.le_refl _, rfl, Or.inl ⟨rfl, rfl, rfl⟩⟩
  case round =>
    obtain ⟨y, pre, rfl, hy, hsplit, hcase⟩ := hrel
    have hpl : pre.length + (Lib.uvarint y).length ≤ 10 := by
      have h2 := congrArg List.length hsplit
      rw [List.length_append] at h2
      omega
    have hyp := Lib.uvarint_pos y
    have HSP : Hid (Lib.uvarint x = pre ++ Lib.uvarint y) := hsplit
    clear hsplit
    by_cases h128 : 128 ≤ y
    · have hor : bits .or .u8 ((y : Int) % 256) 128 = ((y % 128 + 128 : Nat) : Int) := by
        rw [Lib.u8_or128_any _ (by omega) (by omega)]
        omega
      rcases hcase with ⟨rfl, rfl, rfl⟩ | ⟨hown1, hnx⟩
      · go_wp2_with (at_builtin; refine wpList_append_grows _ rfl _ _ 26 rfl 5 i0 (.int .u8 0) 1 1 Try.underlying26 hi hz0 hz1 hz2 rfl (by decide) ao n n olds rfl (fun h => ⟨hfull.nil h, hfull.nil h⟩) (by rw [hfull.len, Nat.mul_one]) (hfull.alloc _) ⟨w.heap.size, 0, none⟩ 1 1 [Value.int .u8 ((y % 128 + 128 : Nat) : Int)] rfl rfl ?d1 ?d2 ?d3 ?d4 ?d5 ?_)
        case d1 =>
          intro j u hj
          match j, hj with
          | 0, hj => simp at hj; subst hj; simp [Addr.add]
        case d2 => intro u hu; simp at hu; subst hu; rfl
        case d3 => omega
        case d4 => unfold maxLen; omega
        case d5 => omega
        intro v' w1 hown0 hgrow
        have hown' := hown0.mono (Nat.le_succ w.heap.size)
        have hnx1 : Below w.heap.size w w1 := ((Below.refl w.heap.size w).alloc (Nat.le_refl _) _).grown hgrow (by simp) (fun k hk => by cases hk)
        go_wp2
        go_roundw
        case rel =>
          refine ⟨y / 128, [] ++ [(y % 128 + 128).toUInt8], by go_num, by omega, by rw [HSP.out, Lib.uvarint_big h128]; simp, Or.inr ⟨?_, hnx1⟩⟩
          have ec : ((y % 128 + 128 : Nat) : Int) = (y : Int) % 128 + 128 := by omega
          rw [Lib.byteCells_snoc [] (by omega), List.length_append, List.length_singleton, ← Nat.add_assoc]
          first | exact hown' | (rw [ec] at hown'; exact hown') | (rw [ec]; exact hown')
        case measure => simp [intOf]; omega
      · go_wp2_with (at_builtin; refine wpList_append_own _ rfl _ _ 26 rfl w.heap.size 5 i0 (.int .u8 0) 1 1 Try.underlying26 hi hz0 hz1 hz2 rfl (by decide) _ _ _ rfl (hown1.alloc _) ⟨wr.heap.size, 0, none⟩ 1 1 [Value.int .u8 ((y % 128 + 128 : Nat) : Int)] rfl rfl ?c1 ?c2 ?c3 ?c4 ?c5 ?_)
        case c1 =>
          intro j u hj
          match j, hj with
          | 0, hj => simp at hj; subst hj; simp [Addr.add]
        case c2 => intro u hu; simp at hu; subst hu; rfl
        case c3 => unfold maxLen; omega
        case c4 => omega
        case c5 => have := hnx.size; simp; omega
        intro v' w1 hown' hgrow _
        have hnx1 : Below w.heap.size w w1 := (hnx.alloc (by have := hnx.size; omega) _).grown hgrow (by have := hnx.size; simp; omega) (fun k hk => (hown1.lt k hk).1)
        go_wp2
        go_roundw
        case rel =>
          refine ⟨y / 128, pre ++ [(y % 128 + 128).toUInt8], by go_num, by omega, by rw [HSP.out, Lib.uvarint_big h128]; simp, Or.inr ⟨?_, hnx1⟩⟩
          have ec : ((y % 128 + 128 : Nat) : Int) = (y : Int) % 128 + 128 := by omega
          rw [Lib.byteCells_snoc pre (by omega), List.length_append, List.length_singleton, ← Nat.add_assoc]
          first | exact hown' | (rw [ec] at hown'; exact hown') | (rw [ec]; exact hown')
        case measure => simp [intOf]; omega
    · have hsm : Lib.uvarint y = [y.toUInt8] := Lib.uvarint_small (by omega)
      rcases hcase with ⟨rfl, rfl, rfl⟩ | ⟨hown1, hnx⟩
      · go_wp2_with (at_builtin; refine wpList_append_grows _ rfl _ _ 26 rfl 5 i0 (.int .u8 0) 1 1 Try.underlying26 hi hz0 hz1 hz2 rfl (by decide) ao n n olds rfl (fun h => ⟨hfull.nil h, hfull.nil h⟩) (by rw [hfull.len, Nat.mul_one]) (hfull.alloc _) ⟨w.heap.size, 0, none⟩ 1 1 [Value.int .u8 (y : Int)] rfl rfl ?d1 ?d2 ?d3 ?d4 ?d5 ?_)
        case d1 =>
          intro j u hj
          match j, hj with
          | 0, hj => simp at hj; subst hj; simp [Addr.add]
        case d2 => intro u hu; simp at hu; subst hu; rfl
        case d3 => omega
        case d4 => unfold maxLen; omega
        case d5 => omega
        intro v' w1 hown0 hgrow
        have hown' := hown0.mono (Nat.le_succ w.heap.size)
        have hnx1 : Below w.heap.size w w1 := ((Below.refl w.heap.size w).alloc (Nat.le_refl _) _).grown hgrow (by simp) (fun k hk => by cases hk)
        go_wp2
        go_ret
        refine Owned.mk ?_ hnx1
        rw [HSP.out, hsm, Lib.byteCells_snoc [] (by omega), List.length_append, List.length_singleton, ← Nat.add_assoc]
        exact hown'
      · go_wp2_with (at_builtin; refine wpList_append_own _ rfl _ _ 26 rfl w.heap.size 5 i0 (.int .u8 0) 1 1 Try.underlying26 hi hz0 hz1 hz2 rfl (by decide) _ _ _ rfl (hown1.alloc _) ⟨wr.heap.size, 0, none⟩ 1 1 [Value.int .u8 (y : Int)] rfl rfl ?c1 ?c2 ?c3 ?c4 ?c5 ?_)
        case c1 =>
          intro j u hj
          match j, hj with
          | 0, hj => simp at hj; subst hj; simp [Addr.add]
        case c2 => intro u hu; simp at hu; subst hu; rfl
        case c3 => unfold maxLen; omega
        case c4 => omega
        case c5 => have := hnx.size; simp; omega
        intro v' w1 hown' hgrow _
        have hnx1 : Below w.heap.size w w1 := (hnx.alloc (by have := hnx.size; omega) _).grown hgrow (by have := hnx.size; simp; omega) (fun k hk => (hown1.lt k hk).1)
        go_wp2
        go_ret
        refine Owned.mk ?_ hnx1
        rw [HSP.out, hsm, Lib.byteCells_snoc pre (by omega), List.length_append, List.length_singleton, ← Nat.add_assoc]
        exact hown'

/-- appendTag onto a slice that the call owns. -/
theorem tag_own (B n : Nat) (f : Int) (sv : Value) (xs : List Value) (w : World) (hown : w.ownsRow B 5 1 sv n xs) (hBw : B ≤ w.heap.size) (hlim : n + 10 ≤ 140737488355328) :
    Calls Try.prog 20 #[sv, .int .i64 f, .int .i64 1] w fun e w' => Owned B (n + (Lib.uvarint (Pl.key f)).length) (xs ++ Lib.byteCells (Lib.uvarint (Pl.key f))) w e w' := by
  have HK : Hid (bits BinOp.or IntKind.u64 (IntKind.u64.wrap (IntKind.u64.wrap f * 8)) 1 = (Pl.key f : Int)) := Pl.key_or f
  go_enter Try.func20, Try.ntmps20
  go_wp2_with fail
  rw [HK.out]
  refine (Try.binary_AppendUvarint B n (Pl.key f) (Pl.key_lt f) sv xs _ hown hBw hlim).mono ?_
  rintro e w1 ⟨v', rfl, h1, h2⟩
  go_wp2
  go_ret
  exact Owned.mk h1 h2
/-- appendTag onto a slice without room. -/
theorem tag_full (n : Nat) (f : Int) (ao : Option Addr) (olds : List Value) (w : World) (hfull : Full w ao n olds) (hlim : n + 10 ≤ 140737488355328) :
    Calls Try.prog 20 #[.slice ao n n, .int .i64 f, .int .i64 1] w fun e w' => Owned w.heap.size (n + (Lib.uvarint (Pl.key f)).length) (olds ++ Lib.byteCells (Lib.uvarint (Pl.key f))) w e w' := by
  have HK : Hid (bits BinOp.or IntKind.u64 (IntKind.u64.wrap (IntKind.u64.wrap f * 8)) 1 = (Pl.key f : Int)) := Pl.key_or f
  go_enter Try.func20, Try.ntmps20
  go_wp2_with fail
  rw [HK.out]
  refine (uvarint_full n (Pl.key f) (Pl.key_lt f) ao olds _ hfull hlim).mono ?_
  rintro e w1 ⟨v', rfl, h1, h2⟩
  go_wp2
  go_ret
  exact Owned.mk h1 h2

theorem rec_cells (f : Int) (d : Nat) (xs : List Value) : xs ++ Lib.byteCells (Lib.uvarint (Pl.key f)) ++ Lib.byteCells (Lib.leBytes 8 d) = xs ++ Lib.byteCells (Pl.recOf f d) := by
  rw [List.append_assoc]
  unfold Pl.recOf Lib.byteCells
  rw [List.map_append]
theorem rec_len (f : Int) (d n : Nat) : n + (Lib.uvarint (Pl.key f)).length + 8 = n + (Pl.recOf f d).length := by
  unfold Pl.recOf
  rw [List.length_append, Lib.leBytes_length]
  omega

/-- The second half of appendDouble: behind the tag. -/
theorem dbl_from (B m : Nat) (d : Nat) (sv : Value) (xs : List Value) (w0 w : World) (hd : d < 18446744073709551616) (h1 : w.ownsRow B 5 1 sv m xs) (h2 : Below B w0 w) (hB : B ≤ w0.heap.size) (hlim : m + 8 ≤ 140737488355328) :
    Calls Try.prog 21 #[.agg #[], sv, .int .u64 d] w.drew fun e w' => Owned B (m + 8) (xs ++ Lib.byteCells (Lib.leBytes 8 d)) w0 e w' := by
  refine (Try.binary_LE_AppendUint64 B m d hd sv xs _ h1.drew (Nat.le_trans hB h2.size) hlim).mono ?_
  rintro e w1 ⟨v', rfl, h3, h4⟩
  exact Owned.mk h3 (h2.drew.trans h4)

set_option maxHeartbeats 1000000 in
/-- ZZB1appendDouble onto a slice that the call owns. -/
theorem dbl_own (B n : Nat) (f : Int) (d : Nat) (sv : Value) (xs : List Value) (w : World) (hd : d < 18446744073709551616) (hown : w.ownsRow B 5 1 sv n xs) (hBw : B ≤ w.heap.size) (hlim : n + 18 ≤ 140737488355328) :
    Calls Try.prog 10 #[sv, .int .i64 f, .float .f64 d] w fun e w' => Owned B (n + (Pl.recOf f d).length) (xs ++ Lib.byteCells (Pl.recOf f d)) w e w' := by
  have hbc := bits_call d
  have hul := Lib.uvarint_length64 (Pl.key_lt f)
  rw [← rec_cells, ← rec_len]
  have HD : Hid (d < 18446744073709551616) := hd
  clear hd
  go_enter Try.func10, Try.ntmps10
  go_wp2_with (first
    | (go_at_call 20; refine (tag_own B n f _ xs _ hown hBw (by omega)).mono ?_; rintro e w1 ⟨v1, rfl, h1, h2⟩)
    | go_in)
  go_region_with (go_at_call 21; refine (dbl_from B _ d v1 _ w _ HD.out h1 h2 hBw (by omega)).mono ?_; rintro e w3 ⟨v3, rfl, h3, h4⟩)
  all_goals
    go_wp2
    go_ret
    exact Owned.mk h3 h4

set_option maxHeartbeats 1000000 in
/-- ZZB1appendDouble onto a slice without room. -/
theorem dbl_full (n : Nat) (f : Int) (d : Nat) (ao : Option Addr) (olds : List Value) (w : World) (hd : d < 18446744073709551616) (hfull : Full w ao n olds) (hlim : n + 18 ≤ 140737488355328) :
    Calls Try.prog 10 #[.slice ao n n, .int .i64 f, .float .f64 d] w fun e w' => Owned w.heap.size (n + (Pl.recOf f d).length) (olds ++ Lib.byteCells (Pl.recOf f d)) w e w' := by
  have hbc := bits_call d
  have hul := Lib.uvarint_length64 (Pl.key_lt f)
  rw [← rec_cells, ← rec_len]
  have HD : Hid (d < 18446744073709551616) := hd
  clear hd
  go_enter Try.func10, Try.ntmps10
  go_wp2_with (first
    | (go_at_call 20; refine (tag_full n f ao olds _ hfull (by omega)).mono ?_; rintro e w1 ⟨v1, rfl, h1, h2⟩)
    | go_in)
  go_region_with (go_at_call 21; refine (dbl_from w.heap.size _ d v1 _ w _ HD.out h1 h2 (Nat.le_refl _) (by omega)).mono ?_; rintro e w3 ⟨v3, rfl, h3, h4⟩)
  all_goals
    go_wp2
    go_ret
    exact Owned.mk h3 h4
end Go.Proofs.Qxb6605921a
