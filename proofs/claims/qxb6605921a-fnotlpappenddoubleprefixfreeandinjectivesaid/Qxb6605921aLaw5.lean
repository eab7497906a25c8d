/-
  FnOtlpAppendDoublePrefixFreeAndInjective: the walk.
-/
import Derived.Test.Qxb6605921aUse
namespace Go.Proofs.Qxb6605921a
open Go.RowKit

set_option maxRecDepth 100000 in
set_option maxHeartbeats 2000000 in
theorem walk5 (a : Option Addr) (cap : Nat) (l : List UInt8) (f : Int) (d d2 : Nat) (w : World) (hl : l.length ≤ maxLen) (hn : a = none → l = []) (hb : Bts w a l) (hd : d < 18446744073709551616) (hd2 : d2 < 18446744073709551616) :
    Calls Try.prog 5 #[.slice a l.length cap, .int .i64 f, .float .f64 d, .float .f64 d2] w fun e w' => e = .returned (.bool true) ∧ Below w.heap.size w w' := by
  by_cases hs : l.length ≤ 1048576
  · have hdc : decide (l.length ≤ 1048576) = true := decide_eq_true hs
    have hb1 := bits_call d
    have hb2 := bits_call d2
    have HD : Hid (d < 18446744073709551616) := hd
    have HD2 : Hid (d2 < 18446744073709551616) := hd2
    have HN : Hid (a = none → l = []) := hn
    have HB : Hid (Bts w a l) := hb
    have HI : Hid (Pl.recOf f d = Pl.recOf f d2 ↔ d = d2) := Pl.rec_inj hd hd2
    have HL : Hid ((Pl.recOf f d).length = Pl.vlen (Pl.key f) + 8) := Pl.rec_length f d
    have HL2 : Hid ((Pl.recOf f d2).length = Pl.vlen (Pl.key f) + 8) := Pl.rec_length f d2
    have hvl := Pl.vlen_le (Pl.key f)
    clear hd hd2 hn hb
    go_enter Try.func5, Try.ntmps5
    go_wp2_with (go_at_call 15; refine (bytes15 _ _ _ _ _ _ _ hl).mono ?_; rintro e w' ⟨rfl, rfl⟩)
    refine (clone_any _ _ _ _ hs HN.out HB.out).mono ?_
    rintro e w1 ⟨a1, rfl, k1, z1, n1⟩
    have K1 : Hid (Bts w1 a1 l) := k1
    have Z1 : Hid (a1 = none → l = []) := z1
    clear k1 z1
    go_wp2_with fail
    refine (clone_any _ _ _ _ hs Z1.out K1.out).mono ?_
    rintro e w2 ⟨a2, rfl, k2, z2, n2⟩
    have K1b : Hid (Bts w2 a1 l) := K1.out.below n2
    have K2 : Hid (Bts w2 a2 l) := k2
    have N2 := n1.trans (n2.mono n1.size)
    clear k2 z2 n1 n2 K1
    go_wp2_with fail
    refine (dbl_nil _ _ _ HD.out).mono ?_
    rintro e w3 ⟨g3, c3, rfl, m3, x3, t3, n3⟩
    have K1c : Hid (Bts w3 a1 l) := K1b.out.below n3
    have K2c : Hid (Bts w3 a2 l) := K2.out.below n3
    have T3 : Hid (At w3 g3 (Pl.recOf f d)) := t3
    have N3 := N2.trans (n3.mono N2.size)
    clear t3 n3 N2 K1b K2
    go_wp2_with fail
    refine (dbl_nil _ _ _ HD2.out).mono ?_
    rintro e w4 ⟨g4, c4, rfl, m4, x4, t4, n4⟩
    have K1d : Hid (Bts w4 a1 l) := K1c.out.below n4
    have K2d : Hid (Bts w4 a2 l) := K2c.out.below n4
    have T3d : Hid (At w4 g3 (Pl.recOf f d)) := T3.out.below n4
    have T4 : Hid (At w4 g4 (Pl.recOf f d2)) := t4
    have N4 := N3.trans (n4.mono N3.size)
    clear t4 n4 N3 K1c K2c T3
    go_wp2_with fail
    refine (dbl_room _ _ _ _ _ HD.out hs Z1.out K1d.out).mono ?_
    rintro e w5 ⟨g5, c5, rfl, m5, x5, t5, n5⟩
    have K2e : Hid (Bts w5 a2 l) := K2d.out.below n5
    have T3e : Hid (At w5 g3 (Pl.recOf f d)) := T3d.out.below n5
    have T4e : Hid (At w5 g4 (Pl.recOf f d2)) := T4.out.below n5
    have T5 : Hid (At w5 g5 (l ++ Pl.recOf f d)) := t5
    have N5 := N4.trans (n5.mono N4.size)
    clear t5 n5 N4 K1d K2d T3d T4 Z1 HD HD2 HN HB
    unfold maxLen at x3 x4 x5
    go_wp2_with fail
    rw [Pl.key_add]
    refine (varintLen_any _ _).mono ?_
    rintro e w6 ⟨rfl, rfl⟩
    rw [HL.out, HL2.out]
    rw [HL.out] at m3 m5
    rw [HL2.out] at m4
    have HX : Hid (decide (Pl.recOf f d = Pl.recOf f d2) = ((d : Int) == (d2 : Int))) := by
      show _ = _
      rw [Bool.eq_iff_iff, decide_eq_true_eq, HI.out, beq_iff_eq]
      omega
    go_wp2_with fail
    refine (equal_n _ _ _ _ _ _ l l _ rfl rfl (by omega) (by omega) T5.out.head K2e.out).mono ?_
    rintro e w7 ⟨rfl, q7, rfl⟩
    rw [show decide (l = l) = true from decide_eq_true rfl]
    go_wp2_with fail
    refine (equal_n _ _ _ _ _ _ (Pl.recOf f d) (Pl.recOf f d) _ HL.out HL.out (by omega) (by omega) (T5.out.tail.drewN q7) (T3e.out.bts.drewN q7)).mono ?_
    rintro e w8 ⟨rfl, q8, rfl⟩
    rw [show decide (Pl.recOf f d = Pl.recOf f d) = true from decide_eq_true rfl]
    go_wp2_with fail
    refine (equal_n _ _ _ _ _ _ (Pl.recOf f d) (Pl.recOf f d2) _ HL.out HL2.out (by omega) (by omega) (T3e.out.bts.drewN (q7 + q8)) (T4e.out.bts.drewN (q7 + q8))).mono ?_
    rintro e w9 ⟨rfl, q9, rfl⟩
    rw [HX.out]
    go_wp2
    go_ret
    exact ⟨rfl, below_drewN N5 _⟩
  · have hdc : decide (l.length ≤ 1048576) = false := decide_eq_false hs
    clear hb hn
    go_enter Try.func5, Try.ntmps5
    go_wp2_with (go_at_call 15; refine (bytes15 _ _ _ _ _ _ _ hl).mono ?_; rintro e w' ⟨rfl, rfl⟩)
    go_ret
    exact ⟨rfl, Below.refl _ _⟩
end Go.Proofs.Qxb6605921a
