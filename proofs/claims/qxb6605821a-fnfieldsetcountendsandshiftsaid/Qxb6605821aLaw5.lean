/-
  FnFieldSetCountEndsAndShift: the walk.
-/
import Derived.Test.Qxb6605821aLaw4
import Derived.Test.Qxb6605821aNames5
import Derived.Test.Qxb6605821aCount
import Derived.Deep.RegionWith
namespace Go.Proofs.Qxb6605821a
open Go.RowKit

theorem setV_same {A B : Nat → Nat} {f l s : Int} (hA : Pl.IsSet A f l s) (hB : Pl.IsSet B f l s) : setV B = setV A := by
  have e := Pl.set_same hA hB
  unfold setV
  rw [e 0 (by omega), e 1 (by omega), e 2 (by omega), e 3 (by omega)]

/-- zzBit, the world behind it told outright: one new block. -/
theorem bit_ex (a : Nat → Nat) (v : Nat) (w : World) (ha : Pl.Words a) (hv : v < 256) :
    Calls Try.prog 12 #[.agg #[.int .u64 (a 0 : Int), .int .u64 (a 1 : Int), .int .u64 (a 2 : Int), .int .u64 (a 3 : Int)], .int .i64 v] w fun e w' => e = .returned (.bool (Pl.mem a v)) ∧
      w.alloc (.cells #[.int .u64 (a 0 : Int), .int .u64 (a 1 : Int), .int .u64 (a 2 : Int), .int .u64 (a 3 : Int)] 27) = w' := by
  have hc : (w.alloc (.cells #[.int .u64 (a 0 : Int), .int .u64 (a 1 : Int), .int .u64 (a 2 : Int), .int .u64 (a 3 : Int)] 27)).cell? ⟨w.heap.size, v / 64, none⟩ = some (.int .u64 (a (v / 64) : Int)) := by
    have hlt : v / 64 < 4 := by omega
    generalize v / 64 = j at hlt
    match j, hlt with
    | 0, _ => simp
    | 1, _ => simp
    | 2, _ => simp
    | 3, _ => simp
  have hb : (v : Int) / 64 < 4 := by omega
  have hb0 : 0 ≤ (v : Int) / 64 := by omega
  go_enter Try.func12, Try.ntmps12
  go_wp2
  go_ret
  exact ⟨congrArg (fun b => Ending.returned (Value.bool b)) (Pl.bit_word _ _ (ha _)), rfl⟩
theorem bit_succ (a : Nat → Nat) (v : Nat) (w : World) (ha : Pl.Words a) (hv : v + 1 < 256) :
    Calls Try.prog 12 #[.agg #[.int .u64 (a 0 : Int), .int .u64 (a 1 : Int), .int .u64 (a 2 : Int), .int .u64 (a 3 : Int)], .int .i64 (IntKind.i64.wrap ((v : Int) + 1))] w fun e w' => e = .returned (.bool (Pl.mem a (v + 1))) ∧
      w.alloc (.cells #[.int .u64 (a 0 : Int), .int .u64 (a 1 : Int), .int .u64 (a 2 : Int), .int .u64 (a 3 : Int)] 27) = w' := by
  rw [show IntKind.i64.wrap ((v : Int) + 1) = ((v + 1 : Nat) : Int) by rw [IntKind.wrap_i64]; omega]
  exact bit_ex a (v + 1) w ha hv
theorem bit_zero (a : Nat → Nat) (w : World) (ha : Pl.Words a) :
    Calls Try.prog 12 #[.agg #[.int .u64 (a 0 : Int), .int .u64 (a 1 : Int), .int .u64 (a 2 : Int), .int .u64 (a 3 : Int)], .int .i64 0] w fun e w' => e = .returned (.bool (Pl.mem a 0)) ∧ Below w.heap.size w w' := by
  rw [show (0 : Int) = ((0 : Nat) : Int) from rfl]
  exact bit_any' a 0 w ha (by omega)

set_option maxRecDepth 100000 in
set_option maxHeartbeats 4000000 in
theorem walk5 (nm : ByteArray) (mn mx base : Int) (a : Option Addr) (len cap : Nat) (S : Nat → ByteArray) (lo hi s : Int) (w : World) (hnm : nm.size ≤ maxLen) (hlen : len ≤ maxLen) (hS : Strs w a len S) :
    Calls Try.prog 5 #[.string nm, .int .i64 mn, .int .i64 mx, .int .i64 base, .slice a len cap, .int .i64 lo, .int .i64 hi, .int .i64 s] w fun e w' => e = .returned (.bool true) ∧ Below w.heap.size w w' := by
  have HS : Hid (Strs w a len S) := hS
  clear hS
  go_enter Try.func5, Try.ntmps5
  go_wp2_with fail
  refine (bytes13 _ _ _ _ _ _ _ _ _ _ _ _ hnm hlen HS.out).mono ?_
  intro e w' hG
  obtain ⟨r, rfl, rfl, hsm⟩ := hG
  cases r with
  | false =>
    go_wp2
    go_ret
    exact ⟨rfl, Below.refl _ _⟩
  | true =>
    obtain ⟨hn1, hn2, hn3⟩ := hsm rfl
    have HN : Hid (∀ i, i < len → (S i).size ≤ 1048576) := hn3
    clear hsm hn3 hnm hlen
    by_cases hl : len ≤ 65536
    · go_wp2
      go_loop [17, 18] (fun n i => ∃ (k : Nat) (t : Int), k ≤ len ∧ i = .int .i64 k ∧ n = .int .i64 t ∧ 0 ≤ t ∧ t ≤ 2097152) (fun _ i => len - (intOf i).toNat)
      case atStart => exact ⟨0, _, Nat.zero_le _, rfl, rfl, by omega, by omega⟩
      case round =>
        obtain ⟨k, t, hk, rfl, rfl, ht0, ht1⟩ := hrel
        by_cases hlt : k < len
        · obtain ⟨b, off, rfl, hc⟩ := HS.out k hlt
          have hsz := HN.out k hlt
          by_cases hsum : t + ((S k).size : Int) ≤ 1048576
          · go_wp2
            go_round
            case rel => exact ⟨k + 1, _, by omega, by go_num, rfl, by omega, by omega⟩
            case measure => simp [intOf]; omega
          · go_wp2
            go_ret
            exact ⟨rfl, Below.refl _ _⟩
        · obtain rfl : k = len := by omega
          go_wp2_with fail
          all_goals first | (go_ret; exact ⟨rfl, Below.refl _ _⟩) | skip
          all_goals
            have b1 : -1099511627776 ≤ base := by omega
            have b2 : base ≤ 1099511627776 := by omega
            have l1 : -1099511627776 ≤ lo := by omega
            have l2 : lo ≤ 1099511627776 := by omega
            have h1 : -1099511627776 ≤ hi := by omega
            have h2 : hi ≤ 1099511627776 := by omega
            have s1 : 1 ≤ s := by omega
            have s2 : s ≤ 1099511627776 := by omega
            have hfits : Fits (lo - base) (hi - base) s := ⟨by omega, by omega, by omega, by omega, s1, s2, fun _ => ⟨by omega, by omega⟩⟩
            have hfits2 : Fits (lo + 1 - (base + 1)) (hi + 1 - (base + 1)) s := ⟨by omega, by omega, by omega, by omega, s1, s2, fun _ => ⟨by omega, by omega⟩⟩
            refine (copy_any _ _ _ _ _ (by omega) HS.out).mono ?_
            rintro e w1 ⟨a', n', c', rfl, hb1⟩
            go_wp2_with fail
            refine (fieldSet_any _ _ _ _ _ _ _ _ _ _ _ (by omega) (by omega) (by omega) (by omega) (by omega) (by omega) hfits).mono ?_
            rintro e w2 ⟨A, hA, rfl, hb2⟩
            unfold setV
            have HA : Hid (Pl.IsSet A (lo - base) (hi - base) s) := hA
            clear hA hfits HN HS
            go_wp2_with fail
            refine (fieldSet_any _ _ _ _ _ _ _ _ _ _ _ (by omega) (by omega) (by omega) (by omega) (by omega) (by omega) hfits2).mono ?_
            rintro e w3 ⟨B, hB, rfl, hb3⟩
            rw [show lo + 1 - (base + 1) = lo - base by omega, show hi + 1 - (base + 1) = hi - base by omega] at hB
            rw [setV_same HA.out hB]
            unfold setV
            have r0 := (got_row w2 A).of_block (hb3.block _ (got_row w2 A).lt)
            have g0 := ((hb1.trans (hb2.mono hb1.size)).alloc (Nat.le_trans hb1.size hb2.size) (.cells #[.int .u64 (A 0 : Int), .int .u64 (A 1 : Int), .int .u64 (A 2 : Int), .int .u64 (A 3 : Int)] 27)).trans (hb3.mono (by have := hb1.size; have := hb2.size; simp; omega))
            clear hb3 hB hfits2 hb2 hb1
            have c0 := r0.cell (i := 0) (by omega)
            have c1 := r0.cell (i := 1) (by omega)
            have c2 := r0.cell (i := 2) (by omega)
            have c3 := r0.cell (i := 3) (by omega)
            unfold cellOf at c0 c1 c2 c3
            have hltg := r0.lt
            have harr := arr_neq (A 0) (A 1) (A 2) (A 3)
            go_wp2_with fail
            have g1 := g0.alloc (by have := g0.size; omega) (.cells #[.int .u64 (A 0 : Int), .int .u64 (A 1 : Int), .int .u64 (A 2 : Int), .int .u64 (A 3 : Int)] 27)
            have r1 := r0.alloc (.cells #[.int .u64 (A 0 : Int), .int .u64 (A 1 : Int), .int .u64 (A 2 : Int), .int .u64 (A 3 : Int)] 27)
            clear r0 g0 harr hltg c0 c1 c2 c3
            go_loopw [21, 22, 23, 24] (fun c l g i wr => ∃ (v : Nat) (x y z : Int), v ≤ 256 ∧ i = .int .i64 v ∧ c = .int .i64 x ∧ l = .int .i64 y ∧ g = .int .i64 z ∧ Pl.st (Pl.mem A) v = (x, y, z) ∧ wr.rowIs w2.heap.size 27 4 (cellOf A) ∧ Below w'.heap.size w' wr) (fun _ _ _ i _ => 256 - (intOf i).toNat)
            case atStart => exact ⟨0, 0, -1, -1, Nat.zero_le _, rfl, rfl, rfl, rfl, rfl, r1, g1⟩
            case round =>
              obtain ⟨v, x, y, z, hv, rfl, rfl, rfl, rfl, hst, hr, hb⟩ := hrel
              clear r1 g1
              have hbd := Pl.st_bounds (Pl.mem A) v
              rw [hst] at hbd
              obtain ⟨x0, x1, y0, y1, z0, z1⟩ := hbd
              simp only at x0 x1 y0 y1 z0 z1
              have HST : Hid (Pl.st (Pl.mem A) v = (x, y, z)) := hst
              clear hst
              by_cases hlt : v < 256
              · have c0 := hr.cell (i := 0) (by omega)
                have c1 := hr.cell (i := 1) (by omega)
                have c2 := hr.cell (i := 2) (by omega)
                have c3 := hr.cell (i := 3) (by omega)
                unfold cellOf at c0 c1 c2 c3
                cases hm : Pl.mem A v
                · have HM : Hid (Pl.mem A v = false) := hm
                  clear hm
                  go_wp2_with fail
                  refine (bit_any' A v _ HA.out.words hlt).mono ?_
                  rintro e w4 ⟨rfl, hb4⟩
                  rw [HM.out]
                  have R1 := hr.of_block (hb4.block _ hr.lt)
                  have R2 := hb.trans (hb4.mono hb.size)
                  clear hb4 hr c0 c1 c2 c3
                  go_wp2
                  go_roundw
                  case rel => exact ⟨v + 1, _, _, _, by omega, by go_num, rfl, rfl, rfl, Pl.st_no HST.out HM.out, R1, R2⟩
                  case measure => simp [intOf]; omega
                · have HM : Hid (Pl.mem A v = true) := hm
                  clear hm
                  by_cases hy : y < 0
                  · go_wp2_with fail
                    refine (bit_any' A v _ HA.out.words hlt).mono ?_
                    rintro e w4 ⟨rfl, hb4⟩
                    rw [HM.out]
                    have R1 := hr.of_block (hb4.block _ hr.lt)
                    have R2 := hb.trans (hb4.mono hb.size)
                    clear hb4 hr c0 c1 c2 c3
                    go_wp2
                    go_roundw
                    case rel => exact ⟨v + 1, _, _, _, by omega, by go_num, rfl, rfl, rfl, Pl.st_yes1 HST.out HM.out hy, R1, R2⟩
                    case measure => simp [intOf]; omega
                  · go_wp2_with fail
                    refine (bit_any' A v _ HA.out.words hlt).mono ?_
                    rintro e w4 ⟨rfl, hb4⟩
                    rw [HM.out]
                    have R1 := hr.of_block (hb4.block _ hr.lt)
                    have R2 := hb.trans (hb4.mono hb.size)
                    clear hb4 hr c0 c1 c2 c3
                    go_wp2
                    go_roundw
                    case rel => exact ⟨v + 1, _, _, _, by omega, by go_num, rfl, rfl, rfl, Pl.st_yes2 HST.out HM.out (by omega), R1, R2⟩
                    case measure => simp [intOf]; omega
              · obtain rfl : v = 256 := by omega
                clear x0 x1 y0 y1 z0 z1 hlt hv
                rcases Int.lt_or_le hi lo with hlh | hlh
                · try (exfalso; omega)
                  all_goals
                    have e := Pl.st_empty HA.out s1 (show hi - base < lo - base by omega)
                    rw [HST.out] at e
                    obtain ⟨rfl, rfl, rfl⟩ : x = 0 ∧ y = -1 ∧ z = -1 := by simpa using e
                    clear e HST hr
                    go_wp2
                    go_ret
                    exact ⟨rfl, hb⟩
                · try (exfalso; omega)
                  all_goals
                    have f0 : 0 ≤ lo - base := by omega
                    have f1 : hi - base ≤ 255 := by omega
                    have e := Pl.st_law (q := (hi - lo) / s) HA.out f0 (by omega) f1 s1 (by rw [show hi - base - (lo - base) = hi - lo by omega])
                    rw [HST.out] at e
                    have q0 : 0 ≤ (hi - lo) / s := Int.ediv_nonneg (by omega) (by omega)
                    have q1 : (hi - lo) / s ≤ hi - lo := Int.ediv_le_self _ (by omega)
                    have q2 : (hi - lo) / s * s ≤ hi - lo := Int.ediv_mul_le _ (by omega)
                    have q3 : 0 ≤ (hi - lo) / s * s := Int.mul_nonneg q0 (by omega)
                    generalize hq : (hi - lo) / s = q at e q0 q1 q2 q3
                    obtain ⟨rfl, rfl, rfl⟩ : x = q + 1 ∧ y = lo - base ∧ z = lo - base + q * s := by simpa using e
                    clear e HST
                    by_cases hup : hi - base < 255
                    · have hfits3 : Fits (lo - (base - 1)) (hi - (base - 1)) s := ⟨by omega, by omega, by omega, by omega, s1, s2, fun _ => ⟨by omega, by omega⟩⟩
                      go_wp2_with fail
                      refine (fieldSet_any _ _ _ _ _ _ _ _ _ _ _ (by omega) (by omega) (by omega) (by omega) (by omega) (by omega) hfits3).mono ?_
                      rintro e w4 ⟨U, hU, rfl, hb4⟩
                      rw [show lo - (base - 1) = lo - base + 1 by omega, show hi - (base - 1) = hi - base + 1 by omega] at hU
                      unfold setV
                      have rg := hr.of_block (hb4.block _ hr.lt)
                      have bg := hb.trans (hb4.mono hb.size)
                      have HU : Hid (Pl.IsSet U (lo - base + 1) (hi - base + 1) s) := hU
                      have HU0 : Hid (Pl.mem U 0 = false) := Pl.mem_low f0 s1 hU
                      clear hU hb4 hr hb hfits3 hq q0 q1 q2 q3
                      go_wp2_with fail
                      refine (bit_zero U _ HU.out.words).mono ?_
                      rintro e w5 ⟨rfl, hb5⟩
                      rw [HU0.out]
                      have ru := (got_row w4 U).of_block (hb5.block _ (got_row w4 U).lt)
                      have rg2 := (rg.alloc (.cells #[.int .u64 (U 0 : Int), .int .u64 (U 1 : Int), .int .u64 (U 2 : Int), .int .u64 (U 3 : Int)] 27)).of_block (hb5.block _ (rg.alloc _).lt)
                      have bg2 := (bg.alloc bg.size (.cells #[.int .u64 (U 0 : Int), .int .u64 (U 1 : Int), .int .u64 (U 2 : Int), .int .u64 (U 3 : Int)] 27)).trans (hb5.mono (by have := bg.size; simp; omega))
                      clear rg bg hb5 HU0
                      go_wp2_with fail
                      go_loopw [27] (fun i wr => ∃ v : Nat, v ≤ 255 ∧ i = .int .i64 v ∧ wr.rowIs w2.heap.size 27 4 (cellOf A) ∧ wr.rowIs w4.heap.size 27 4 (cellOf U) ∧ Below w'.heap.size w' wr) (fun i _ => 255 - (intOf i).toNat)
                      case atStart => exact ⟨0, Nat.zero_le _, rfl, rg2, ru, bg2⟩
                      case round =>
                        obtain ⟨v, hv, rfl, hra, hru, hb⟩ := hrel
                        clear rg2 ru bg2
                        by_cases hlt : v < 255
                        · have c0 := hra.cell (i := 0) (by omega)
                          have c1 := hra.cell (i := 1) (by omega)
                          have c2 := hra.cell (i := 2) (by omega)
                          have c3 := hra.cell (i := 3) (by omega)
                          have d0 := hru.cell (i := 0) (by omega)
                          have d1 := hru.cell (i := 1) (by omega)
                          have d2 := hru.cell (i := 2) (by omega)
                          have d3 := hru.cell (i := 3) (by omega)
                          unfold cellOf at c0 c1 c2 c3 d0 d1 d2 d3
                          have la := hra.lt
                          have lu := hru.lt
                          have HM : Hid (Pl.mem A v = Pl.mem U (v + 1)) := Pl.mem_shift HA.out HU.out hlt
                          go_wp2_with fail
                          go_region_with (first
                            | (go_at_call_of 12 (Value.int .i64 (v : Int)); refine (bit_ex A v _ HA.out.words (by omega)).mono ?_; rintro e wx ⟨rfl, rfl⟩; rw [HM.out])
                            | (go_at_call 12; refine (bit_succ U v _ HU.out.words (by omega)).mono ?_; rintro e wx ⟨rfl, rfl⟩))
                          all_goals
                            clear c0 c1 c2 c3 d0 d1 d2 d3 la lu
                            go_wp2
                            go_roundw
                            case rel => exact ⟨v + 1, by omega, by go_num, ((hra.alloc _).alloc _).drew, ((hru.alloc _).alloc _).drew, ((hb.alloc hb.size _).alloc (by have := hb.size; simp; omega) _).drew⟩
                            case measure => simp [intOf]; omega
                        · clear hra hru
                          go_wp2
                          go_ret
                          exact ⟨rfl, hb⟩
                    · clear hr
                      go_wp2
                      go_ret
                      exact ⟨rfl, hb⟩
    · go_wp2
      go_ret
      exact ⟨rfl, Below.refl _ _⟩
end Go.Proofs.Qxb6605821a
