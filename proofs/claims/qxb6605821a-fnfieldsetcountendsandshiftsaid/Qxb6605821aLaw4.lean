/-
  FnFieldSetMembersExact: the walk.
-/
import Derived.Test.Qxb6605821aNames
namespace Go.Proofs.Qxb6605821a
open Go.RowKit

theorem got_row (w : World) (A : Nat → Nat) : (w.alloc (.cells #[.int .u64 (A 0 : Int), .int .u64 (A 1 : Int), .int .u64 (A 2 : Int), .int .u64 (A 3 : Int)] 27)).rowIs w.heap.size 27 4 (cellOf A) :=
  World.rowIs_alloc w #[.int .u64 (A 0 : Int), .int .u64 (A 1 : Int), .int .u64 (A 2 : Int), .int .u64 (A 3 : Int)] 27 (cellOf A) (by
    intro i hi
    have hi : i < 4 := hi
    match i, hi with
    | 0, _ => rfl
    | 1, _ => rfl
    | 2, _ => rfl
    | 3, _ => rfl)

theorem mem_in {A : Nat → Nat} {f l s : Int} (h : Pl.IsSet A f l s) (hs : 1 ≤ s) {v : Nat} (hv : v < 256) (h1 : f ≤ v) (h2 : (v : Int) ≤ l) : Pl.mem A v = (((v : Int) - f) % s == 0) := by
  rw [Bool.eq_iff_iff, h.mem v hv, Pl.mem_iff hs, beq_iff_eq]
  exact ⟨fun x => x.2.2, fun x => ⟨h1, h2, x⟩⟩
theorem mem_out {A : Nat → Nat} {f l s : Int} (h : Pl.IsSet A f l s) (hs : 1 ≤ s) {v : Nat} (hv : v < 256) (hn : ¬ (f ≤ v ∧ (v : Int) ≤ l)) : Pl.mem A v = false := by
  cases hm : Pl.mem A v
  · rfl
  · have := (Pl.mem_iff hs v).1 ((h.mem v hv).1 hm)
    exact absurd ⟨this.1, this.2.1⟩ hn
theorem bit_any' (a : Nat → Nat) (v : Nat) (w : World) (ha : Pl.Words a) (hv : v < 256) :
    Calls Try.prog 12 #[.agg #[.int .u64 (a 0 : Int), .int .u64 (a 1 : Int), .int .u64 (a 2 : Int), .int .u64 (a 3 : Int)], .int .i64 v] w fun e w' => e = .returned (.bool (Pl.mem a v)) ∧ Below w.heap.size w w' :=
  bit_any a v w ha hv

set_option maxRecDepth 100000 in
set_option maxHeartbeats 2000000 in
theorem walk4 (nm : ByteArray) (mn mx base : Int) (a : Option Addr) (len cap : Nat) (S : Nat → ByteArray) (lo hi s : Int) (w : World) (hnm : nm.size ≤ maxLen) (hlen : len ≤ maxLen) (hS : Strs w a len S) :
    Calls Try.prog 4 #[.string nm, .int .i64 mn, .int .i64 mx, .int .i64 base, .slice a len cap, .int .i64 lo, .int .i64 hi, .int .i64 s] w fun e w' => e = .returned (.bool true) ∧ Below w.heap.size w w' := by
  have HS : Hid (Strs w a len S) := hS
  clear hS
  go_enter Try.func4, Try.ntmps4
  go_wp2_with fail
  refine (bytes9 _ _ _ _ _ _ _ _ _ _ _ _ hnm hlen HS.out).mono ?_
  intro e w' hG
  obtain ⟨r, rfl, rfl, hsm⟩ := hG
  cases r with
  | false =>
    go_wp2
    go_ret
    exact ⟨rfl, Below.refl _ _⟩
  | true =>
    obtain ⟨hn1, hn2, hn3⟩ := hsm rfl
    have HN : Hid (∀ i, i < len → (S i).size ≤ 1048576) := hn3
    clear hsm hn3 hnm hlen
    by_cases hl : len ≤ 65536
    · go_wp2
      go_loop [17, 18] (fun n i => ∃ (k : Nat) (t : Int), k ≤ len ∧ i = .int .i64 k ∧ n = .int .i64 t ∧ 0 ≤ t ∧ t ≤ 2097152) (fun _ i => len - (intOf i).toNat)
      case atStart => exact ⟨0, _, Nat.zero_le _, rfl, rfl, by omega, by omega⟩
      case round =>
        obtain ⟨k, t, hk, rfl, rfl, ht0, ht1⟩ := hrel
        by_cases hlt : k < len
        · obtain ⟨b, off, rfl, hc⟩ := HS.out k hlt
          have hsz := HN.out k hlt
          by_cases hsum : t + ((S k).size : Int) ≤ 1048576
          · go_wp2
            go_round
            case rel => exact ⟨k + 1, _, by omega, by go_num, rfl, by omega, by omega⟩
            case measure => simp [intOf]; omega
          · go_wp2
            go_ret
            exact ⟨rfl, Below.refl _ _⟩
        · obtain rfl : k = len := by omega
          go_wp2_with fail
          all_goals first | (go_ret; exact ⟨rfl, Below.refl _ _⟩) | skip
          all_goals
            have b1 : -1099511627777 ≤ base := by omega
            have b2 : base ≤ 1099511627777 := by omega
            have l1 : -1099511627777 ≤ lo := by omega
            have l2 : lo ≤ 1099511627777 := by omega
            have h1 : -1099511627777 ≤ hi := by omega
            have h2 : hi ≤ 1099511627777 := by omega
            have s1 : 1 ≤ s := by omega
            have s2 : s ≤ 1099511627776 := by omega
            have hfits : Fits (lo - base) (hi - base) s := ⟨by omega, by omega, by omega, by omega, s1, s2, fun _ => ⟨by omega, by omega⟩⟩
            refine (copy_any _ _ _ _ _ (by omega) HS.out).mono ?_
            rintro e w1 ⟨a', n', c', rfl, hb1⟩
            go_wp2_with fail
            refine (fieldSet_any _ _ _ _ _ _ _ _ _ _ _ b1 b2 l1 l2 h1 h2 hfits).mono ?_
            rintro e w2 ⟨A, hA, rfl, hb2⟩
            unfold setV
            go_wp2_with fail
            have r0 := got_row w2 A
            have g0 := (hb1.trans (hb2.mono hb1.size)).alloc (Nat.le_trans hb1.size hb2.size) (.cells #[.int .u64 (A 0 : Int), .int .u64 (A 1 : Int), .int .u64 (A 2 : Int), .int .u64 (A 3 : Int)] 27)
            have HA : Hid (Pl.IsSet A (lo - base) (hi - base) s) := hA
            clear hA hfits hb2 HN
            go_loopw [22] (fun i wr => ∃ v : Nat, v ≤ 256 ∧ i = .int .i64 v ∧ wr.rowIs w2.heap.size 27 4 (cellOf A) ∧ Below w'.heap.size w' wr) (fun i _ => 256 - (intOf i).toNat)
            case atStart => exact ⟨0, Nat.zero_le _, rfl, r0, g0⟩
            case round =>
              obtain ⟨v, hv, rfl, hr, hb⟩ := hrel
              clear r0 g0
              by_cases hlt : v < 256
              · have c0 := hr.cell (i := 0) (by omega)
                have c1 := hr.cell (i := 1) (by omega)
                have c2 := hr.cell (i := 2) (by omega)
                have c3 := hr.cell (i := 3) (by omega)
                unfold cellOf at c0 c1 c2 c3
                by_cases p1 : lo - base ≤ (v : Int)
                · by_cases p2 : (v : Int) ≤ hi - base
                  · have HM : Hid (Pl.mem A v = (((v : Int) - (lo - base)) % s == 0)) := mem_in HA.out s1 hlt p1 p2
                    try (exfalso; omega)
                    all_goals
                      go_wp2_with fail
                      refine (bit_any' A v _ HA.out.words hlt).mono ?_
                      rintro e w3 ⟨rfl, hb3⟩
                      rw [HM.out]
                      have R1 := hr.of_block (hb3.block _ hr.lt)
                      have R2 := hb.trans (hb3.mono hb.size)
                      clear hb3 hr c0 c1 c2 c3
                      go_wp2
                      go_roundw
                      case rel => exact ⟨v + 1, by omega, by go_num, R1, R2⟩
                      case measure => simp [intOf]; omega
                  · have HM : Hid (Pl.mem A v = false) := mem_out HA.out s1 hlt (fun h => p2 h.2)
                    go_wp2_with fail
                    refine (bit_any' A v _ HA.out.words hlt).mono ?_
                    rintro e w3 ⟨rfl, hb3⟩
                    rw [HM.out]
                    have R1 := hr.of_block (hb3.block _ hr.lt)
                    have R2 := hb.trans (hb3.mono hb.size)
                    clear hb3 hr c0 c1 c2 c3
                    go_wp2
                    go_roundw
                    case rel => exact ⟨v + 1, by omega, by go_num, R1, R2⟩
                    case measure => simp [intOf]; omega
                · have HM : Hid (Pl.mem A v = false) := mem_out HA.out s1 hlt (fun h => p1 h.1)
                  go_wp2_with fail
                  refine (bit_any' A v _ HA.out.words hlt).mono ?_
                  rintro e w3 ⟨rfl, hb3⟩
                  rw [HM.out]
                  have R1 := hr.of_block (hb3.block _ hr.lt)
                  have R2 := hb.trans (hb3.mono hb.size)
                  clear hb3 hr c0 c1 c2 c3
                  go_wp2
                  go_roundw
                  case rel => exact ⟨v + 1, by omega, by go_num, R1, R2⟩
                  case measure => simp [intOf]; omega
              · go_wp2
                go_ret
                exact ⟨rfl, hb⟩
    · go_wp2
      go_ret
      exact ⟨rfl, Below.refl _ _⟩
end Go.Proofs.Qxb6605821a
