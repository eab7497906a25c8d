/-
  The walks of the byte helpers: b1Clone, b1Equal, b1VarintLen, zzBytes...
-/
import Derived.Test.Qxb6605921aApp
import Derived.Laws.CopyOwn
import Derived.Lib.SliceRun
import Derived.Deep.OwnRows
import Derived.Deep.Draws
import Derived.Deep.QuietTactic
import Derived.BigQuiet
namespace Go.Proofs.Qxb6605921a
open Go.RowKit

theorem below_drewN {B : Nat} {a w : World} (h : Below B a w) (n : Nat) : Below B a (w.drewN n) := h.trans ⟨rfl, rfl, rfl, Nat.le_refl _, fun _ _ => rfl⟩
theorem ret_bool {a b : Bool} (h : a = b) : Ending.returned (.bool a) = .returned (.bool b) := by rw [h]

/-- The value of byte i of a text, as a cell holds it. -/
def bv (l : List UInt8) (i : Nat) : Value := .int .u8 ((l[i]?.getD 0).toNat : Int)
/-- A slice at address a holds the bytes l. -/
def Bts (w : World) (a : Option Addr) (l : List UInt8) : Prop := ∀ i, i < l.length → ∃ b off, a = some ⟨b, off, none⟩ ∧ w.cell? ⟨b, off + i, none⟩ = some (bv l i)

theorem Bts.below {w w' : World} {a : Option Addr} {l : List UInt8} (h : Bts w a l) (hb : Below w.heap.size w w') : Bts w' a l := fun i hi => by
  obtain ⟨b, off, e, hc⟩ := h i hi
  exact ⟨b, off, e, (hb.cell (World.block_lt_of_cell? w _ hc)).trans hc⟩

theorem byteCells_at (l : List UInt8) (j : Nat) (h : j < l.length) : (Lib.byteCells l)[j]? = some (bv l j) := by
  unfold Lib.byteCells bv
  rw [List.getElem?_map, List.getElem?_eq_getElem h]
  rfl
theorem byteCells_length (l : List UInt8) : (Lib.byteCells l).length = l.length := by simp [Lib.byteCells]

/-- A slice without room whose bytes are l. -/
theorem Bts.full {w : World} {a : Option Addr} {l : List UInt8} (h : Bts w a l) (hn : a = none → l = []) : Full w a l.length (Lib.byteCells l) := by
  refine ⟨fun e => by rw [hn e]; rfl, byteCells_length l, ?_⟩
  intro b hb j u hj
  have hlt : j < l.length := by
    rcases Nat.lt_or_ge j l.length with h1 | h1
    · exact h1
    · rw [List.getElem?_eq_none (by rw [byteCells_length]; exact h1)] at hj; cases hj
  obtain ⟨b', off, e, hc⟩ := h j hlt
  obtain rfl := Option.some.inj (hb.symm.trans e)
  rw [byteCells_at l j hlt] at hj
  have e2 : (⟨b', off, none⟩ : Addr).add j = ⟨b', off + j, none⟩ := by unfold Addr.add; split <;> simp_all
  rw [e2, hc]
  exact hj

/-- What an owned row of bytes is: an address, a capacity, the cells. -/
theorem owned_open {w : World} {B m : Nat} {v : Value} {l : List UInt8} (h : w.ownsRow B 5 1 v m (Lib.byteCells l)) (hm : 0 < m) : ∃ g cap, v = .slice (some ⟨g, 0, none⟩) m cap ∧ m ≤ cap ∧ cap ≤ maxLen ∧ l.length = m ∧ ∀ i, i < m → w.cell? ⟨g, i, none⟩ = some (bv l i) := by
  have hlen : l.length = m := by have := h.1; rw [byteCells_length, Nat.mul_one] at this; exact this
  have h0 := h
  rcases h.2 with ⟨_, e⟩ | ⟨g, cap, cur, rfl, _, _, h1, h2, _⟩
  · omega
  · exact ⟨g, cap, rfl, h1, h2, hlen, fun i hi => by rw [h0.cellAt i (by omega), byteCells_at l i (by omega)]⟩

/-- How b1Clone ends. -/
def Cloned (l : List UInt8) (w : World) (e : Ending) (w' : World) : Prop := ∃ a, e = .returned (.slice a l.length l.length) ∧ Bts w' a l ∧ (a = none → l = []) ∧ Below w.heap.size w w'

set_option maxHeartbeats 1000000 in
theorem clone_any (a : Option Addr) (cap : Nat) (l : List UInt8) (w : World) (hl : l.length ≤ 1048576) (hn : a = none → l = []) (hb : Bts w a l) :
    Calls Try.prog 9 #[.slice a l.length cap] w fun e w' => Cloned l w e w' := by
  cases a with
  | none =>
    obtain rfl := hn rfl
    have hnil := fun wx => Lib.run_eql_slice_nil (P := Try.prog) wx 26 5 none 0 cap 0 0 Try.underlying26
    clear hb hn
    go_enter Try.func9, Try.ntmps9
    go_wp2
    go_ret
    exact ⟨none, rfl, fun i hi => absurd hi (Nat.not_lt_zero _), fun _ => rfl, Below.refl _ _⟩
  | some x =>
    have hnil := fun wx => Lib.run_eql_slice_nil (P := Try.prog) wx 26 5 (some x) l.length cap 0 0 Try.underlying26
    have hmk := run_make_row' (P := Try.prog) 26 5 (.int .u8 0) 1 Try.underlying26 info5 rfl .i64 .i64 l.length (by omega) (by omega)
    have hfl := (hb.full hn).alloc (.cells (madeCells #[.int .u8 0] l.length) 5) x rfl
    have hcp := run_copy_row (P := Try.prog) (w.alloc (.cells (madeCells #[.int .u8 0] l.length) 5)) 26 26 3 5 w.heap.size 0 l.length l.length x l.length cap (madeCells #[.int .u8 0] l.length) 5 (Lib.byteCells l) Try.underlying26 (by kernel_rfl) (heap_alloc_new w _) (by rw [byteCells_length]; simp) hfl (by rw [byteCells_length, size_madeCells]; omega) (by intro v hv; simp only [Lib.byteCells, List.mem_map] at hv; obtain ⟨b, _, rfl⟩ := hv; rfl)
    have he : (List.take 0 (madeCells #[Value.int .u8 0] l.length).toList ++ Lib.byteCells l ++ List.drop (0 + (Lib.byteCells l).length) (madeCells #[Value.int .u8 0] l.length).toList).toArray = (Lib.byteCells l).toArray := by
      rw [List.take_zero, List.nil_append, List.drop_eq_nil_of_le (by rw [byteCells_length, Array.length_toList, size_madeCells]; omega), List.append_nil]
    rw [he, byteCells_length] at hcp
    have row1 := setRow_heap (w.alloc (.cells (madeCells #[.int .u8 0] l.length) 5)) w.heap.size _ (Lib.byteCells l).toArray 5 (0, 0) (heap_alloc_new w _)
    have bel1 := below_setRow ((Below.refl w.heap.size w).alloc (Nat.le_refl _) (.cells (madeCells #[.int .u8 0] l.length) 5)) (Nat.le_refl _) (Lib.byteCells l).toArray
    generalize (w.alloc (.cells (madeCells #[.int .u8 0] l.length) 5)).setRow w.heap.size (Lib.byteCells l).toArray = W1 at hcp row1 bel1
    have HR : Hid (Bts W1 (some ⟨w.heap.size, 0, none⟩) l) := fun i hi => ⟨w.heap.size, 0, rfl, by
      rw [Nat.zero_add]
      simp [World.cell?, row1, byteCells_at l i hi]⟩
    clear hb hn hfl he row1
    go_enter Try.func9, Try.ntmps9
    go_wp2
    go_ret
    exact ⟨some ⟨w.heap.size, 0, none⟩, rfl, HR.out, (fun e => by cases e), bel1⟩

set_option maxHeartbeats 1000000 in
/-- b1Equal: are the bytes the same? -/
theorem equal_any (a1 a2 : Option Addr) (c1 c2 : Nat) (l1 l2 : List UInt8) (w : World) (hn1 : l1.length ≤ 2097152) (_hn2 : l2.length ≤ 2097152) (h1 : Bts w a1 l1) (h2 : Bts w a2 l2) :
    Calls Try.prog 11 #[.slice a1 l1.length c1, .slice a2 l2.length c2] w fun e w' => e = .returned (.bool (decide (l1 = l2))) ∧ ∃ q, w' = w.drewN q := by
  by_cases hlen : l1.length = l2.length
  · have hne : ((l1.length : Int) != (l2.length : Int)) = false := by simp [hlen]
    have HL : Hid (l1.length = l2.length) := hlen
    clear hlen
    go_enter Try.func11, Try.ntmps11
    go_wp2
    clear hne
    go_loopw [5] (fun i wr => ∃ k : Nat, k ≤ l1.length ∧ i = .int .i64 k ∧ (∃ q, wr = w.drewN q) ∧ ∀ j, j < k → l1[j]? = l2[j]?) (fun i _ => l1.length - (intOf i).toNat)
    case atStart => exact ⟨0, Nat.zero_le _, rfl, ⟨0, rfl⟩, fun j hj => absurd hj (Nat.not_lt_zero _)⟩
    case round =>
      obtain ⟨k, hk, rfl, ⟨q, rfl⟩, hj0⟩ := hrel
      have HJ : Hid (∀ j, j < k → l1[j]? = l2[j]?) := hj0
      clear hj0
      by_cases hlt : k < l1.length
      · have hlt2 : k < l2.length := by rw [← HL.out]; exact hlt
        obtain ⟨b1, o1, rfl, g1⟩ := h1 k hlt
        obtain ⟨b2, o2, rfl, g2⟩ := h2 k hlt2
        unfold bv at g1 g2
        have hkn : (k : Int) < (l1.length : Int) := by omega
        have hkn2 : (k : Int) < (l2.length : Int) := by omega
        clear h1 h2
        generalize hx1 : l1[k]?.getD 0 = x1 at g1
        generalize hx2 : l2[k]?.getD 0 = x2 at g2
        have H1 : Hid (l1[k]?.getD 0 = x1) := hx1
        have H2 : Hid (l2[k]?.getD 0 = x2) := hx2
        clear hx1 hx2
        by_cases hs : x1 = x2
        · have hb : ((x1.toNat : Int) != (x2.toNat : Int)) = false := by rw [hs]; simp
          have HJ2 : Hid (∀ j, j < k + 1 → l1[j]? = l2[j]?) := fun j hj => by
            by_cases e : j = k
            · subst e
              have e1 := H1.out
              have e2 := H2.out
              rw [List.getElem?_eq_getElem hlt] at e1 ⊢
              rw [List.getElem?_eq_getElem hlt2] at e2 ⊢
              simp only [Option.getD_some] at e1 e2
              rw [e1, e2, hs]
            · exact HJ.out j (by omega)
          clear hs
          go_wp2
          go_quiet (fail)
          go_wp2
          go_roundw
          case rel => exact ⟨k + 1, by omega, by go_num, ⟨_, rfl⟩, HJ2.out⟩
          case measure => simp [intOf]; omega
        · have hb : ((x1.toNat : Int) != (x2.toNat : Int)) = true := by
            rw [bne_iff_ne]; intro e; apply hs; rw [← UInt8.toNat_inj]; omega
          have HN : Hid (decide (l1 = l2) = false) := decide_eq_false (fun e => hs (by rw [← H1.out, ← H2.out, e]))
          clear hs
          go_wp2
          go_quiet (fail)
          go_wp2
          go_ret
          exact ⟨ret_bool HN.out.symm, _, World.drewN_drewN _ _ _⟩
      · obtain rfl : k = l1.length := by omega
        have HY : Hid (decide (l1 = l2) = true) := decide_eq_true (List.ext_getElem? fun j => by
          by_cases hj : j < l1.length
          · exact HJ.out j hj
          · rw [List.getElem?_eq_none (by omega), List.getElem?_eq_none (by rw [← HL.out]; omega)])
        clear h1 h2
        go_wp2
        go_ret
        exact ⟨ret_bool HY.out.symm, q, rfl⟩
  · have hne : ((l1.length : Int) != (l2.length : Int)) = true := by rw [bne_iff_ne]; omega
    have HN : Hid (decide (l1 = l2) = false) := decide_eq_false (fun e => hlen (by rw [e]))
    clear h1 h2 hlen
    go_enter Try.func11, Try.ntmps11
    go_wp2
    go_ret
    exact ⟨ret_bool HN.out.symm, 0, rfl⟩

theorem bytes15 (a : Option Addr) (n c : Nat) (f : Int) (d d2 : Nat) (w : World) (hn : n ≤ maxLen) :
    Calls Try.prog 15 #[.slice a n c, .int .i64 f, .float .f64 d, .float .f64 d2] w fun e w' => e = .returned (.bool (decide (n ≤ 1048576))) ∧ w' = w := by
  unfold maxLen at hn
  by_cases h : n ≤ 1048576
  all_goals
    go_enter Try.func15, Try.ntmps15
    go_wp2
    go_ret
    exact ⟨ret_bool (by simp [h]), rfl⟩
theorem bytes8 (a : Option Addr) (n c : Nat) (f : Int) (d : Nat) (f2 : Int) (d2 : Nat) (w : World) (hn : n ≤ maxLen) :
    Calls Try.prog 8 #[.slice a n c, .int .i64 f, .float .f64 d, .int .i64 f2, .float .f64 d2] w fun e w' => e = .returned (.bool (decide (n ≤ 1048576))) ∧ w' = w := by
  unfold maxLen at hn
  by_cases h : n ≤ 1048576
  all_goals
    go_enter Try.func8, Try.ntmps8
    go_wp2
    go_ret
    exact ⟨ret_bool (by simp [h]), rfl⟩

/-! b1VarintLen, a step a threshold. -/
set_option maxRecDepth 100000 in
theorem vl1 (x : Int) (w : World)  (h : x < 128) :
    Calls Try.prog 16 #[.int .u64 x] w fun e w' => e = .returned (.int .i64 1) ∧ w' = w := by
  go_enter Try.func16, Try.ntmps16
  go_wp2
  go_ret
  exact ⟨rfl, rfl⟩
set_option maxRecDepth 100000 in
theorem vl2 (x : Int) (w : World) (g1 : 128 ≤ x) (h : x < 16384) :
    Calls Try.prog 16 #[.int .u64 x] w fun e w' => e = .returned (.int .i64 2) ∧ w' = w := by
  go_enter Try.func16, Try.ntmps16
  go_wp2
  go_ret
  exact ⟨rfl, rfl⟩
set_option maxRecDepth 100000 in
theorem vl3 (x : Int) (w : World) (g2 : 16384 ≤ x) (h : x < 2097152) :
    Calls Try.prog 16 #[.int .u64 x] w fun e w' => e = .returned (.int .i64 3) ∧ w' = w := by
  have e1 : 128 ≤ x := by omega
  go_enter Try.func16, Try.ntmps16
  go_wp2
  go_ret
  exact ⟨rfl, rfl⟩
set_option maxRecDepth 100000 in
theorem vl4 (x : Int) (w : World) (g3 : 2097152 ≤ x) (h : x < 268435456) :
    Calls Try.prog 16 #[.int .u64 x] w fun e w' => e = .returned (.int .i64 4) ∧ w' = w := by
  have e1 : 128 ≤ x := by omega
  have e2 : 16384 ≤ x := by omega
  go_enter Try.func16, Try.ntmps16
  go_wp2
  go_ret
  exact ⟨rfl, rfl⟩
set_option maxRecDepth 100000 in
theorem vl5 (x : Int) (w : World) (g4 : 268435456 ≤ x) (h : x < 34359738368) :
    Calls Try.prog 16 #[.int .u64 x] w fun e w' => e = .returned (.int .i64 5) ∧ w' = w := by
  have e1 : 128 ≤ x := by omega
  have e2 : 16384 ≤ x := by omega
  have e3 : 2097152 ≤ x := by omega
  go_enter Try.func16, Try.ntmps16
  go_wp2
  go_ret
  exact ⟨rfl, rfl⟩
set_option maxRecDepth 100000 in
theorem vl6 (x : Int) (w : World) (g5 : 34359738368 ≤ x) (h : x < 4398046511104) :
    Calls Try.prog 16 #[.int .u64 x] w fun e w' => e = .returned (.int .i64 6) ∧ w' = w := by
  have e1 : 128 ≤ x := by omega
  have e2 : 16384 ≤ x := by omega
  have e3 : 2097152 ≤ x := by omega
  have e4 : 268435456 ≤ x := by omega
  go_enter Try.func16, Try.ntmps16
  go_wp2
  go_ret
  exact ⟨rfl, rfl⟩
set_option maxRecDepth 100000 in
theorem vl7 (x : Int) (w : World) (g6 : 4398046511104 ≤ x) (h : x < 562949953421312) :
    Calls Try.prog 16 #[.int .u64 x] w fun e w' => e = .returned (.int .i64 7) ∧ w' = w := by
  have e1 : 128 ≤ x := by omega
  have e2 : 16384 ≤ x := by omega
  have e3 : 2097152 ≤ x := by omega
  have e4 : 268435456 ≤ x := by omega
  have e5 : 34359738368 ≤ x := by omega
  go_enter Try.func16, Try.ntmps16
  go_wp2
  go_ret
  exact ⟨rfl, rfl⟩
set_option maxRecDepth 100000 in
theorem vl8 (x : Int) (w : World) (g7 : 562949953421312 ≤ x) (h : x < 72057594037927936) :
    Calls Try.prog 16 #[.int .u64 x] w fun e w' => e = .returned (.int .i64 8) ∧ w' = w := by
  have e1 : 128 ≤ x := by omega
  have e2 : 16384 ≤ x := by omega
  have e3 : 2097152 ≤ x := by omega
  have e4 : 268435456 ≤ x := by omega
  have e5 : 34359738368 ≤ x := by omega
  have e6 : 4398046511104 ≤ x := by omega
  go_enter Try.func16, Try.ntmps16
  go_wp2
  go_ret
  exact ⟨rfl, rfl⟩
set_option maxRecDepth 100000 in
theorem vl9 (x : Int) (w : World) (g8 : 72057594037927936 ≤ x) (h : x < 9223372036854775808) :
    Calls Try.prog 16 #[.int .u64 x] w fun e w' => e = .returned (.int .i64 9) ∧ w' = w := by
  have e1 : 128 ≤ x := by omega
  have e2 : 16384 ≤ x := by omega
  have e3 : 2097152 ≤ x := by omega
  have e4 : 268435456 ≤ x := by omega
  have e5 : 34359738368 ≤ x := by omega
  have e6 : 4398046511104 ≤ x := by omega
  have e7 : 562949953421312 ≤ x := by omega
  go_enter Try.func16, Try.ntmps16
  go_wp2
  go_ret
  exact ⟨rfl, rfl⟩
set_option maxRecDepth 100000 in
theorem vl10 (x : Int) (w : World) (g9 : 9223372036854775808 ≤ x)  :
    Calls Try.prog 16 #[.int .u64 x] w fun e w' => e = .returned (.int .i64 10) ∧ w' = w := by
  have e1 : 128 ≤ x := by omega
  have e2 : 16384 ≤ x := by omega
  have e3 : 2097152 ≤ x := by omega
  have e4 : 268435456 ≤ x := by omega
  have e5 : 34359738368 ≤ x := by omega
  have e6 : 4398046511104 ≤ x := by omega
  have e7 : 562949953421312 ≤ x := by omega
  have e8 : 72057594037927936 ≤ x := by omega
  go_enter Try.func16, Try.ntmps16
  go_wp2
  go_ret
  exact ⟨rfl, rfl⟩
end Go.Proofs.Qxb6605921a
