/-
  FnOtlpAppendDoubleTwoRecordsReadBack: the walk.
-/
import Derived.Test.Qxb6605921aReaders
namespace Go.Proofs.Qxb6605921a
open Go.RowKit

theorem readKey_i (g n cap p x U : Nat) (L r : List UInt8) (w : World) (P G : Int) (hP : P = p) (hU : (Lib.uvarint x).length = U) (hG : (x : Int) / 8 = G) (h1 : (x : Int) % 8 = 1) (hA : At w g L) (hL : L.length = n) (hn : n ≤ 2097152) (hd : L.drop p = Lib.uvarint x ++ r) (hx : x < 18446744073709551616) :
    Calls Try.prog 12 #[.slice (some ⟨g, 0, none⟩) n cap, .int .i64 P] w fun e w' => e = .returned (.tuple #[.int .u64 G, .int .u64 1, .int .i64 (P + U), .bool true]) ∧ w' = w := by
  subst hP; subst hU; subst hG
  refine (readKey_any g n cap p x L r w hA hL hn hd hx).mono fun e w' h => ⟨?_, h.2⟩
  rw [h.1, h1]
theorem readLE_i (g n cap p v : Nat) (L r : List UInt8) (w : World) (P : Int) (hP : P = p) (hA : At w g L) (hL : L.length = n) (hn : n ≤ 2097152) (hd : L.drop p = Lib.leBytes 8 v ++ r) (hv : v < 18446744073709551616) :
    Calls Try.prog 13 #[.slice (some ⟨g, 0, none⟩) n cap, .int .i64 P] w fun e w' => e = .returned (.tuple #[.int .u64 (v : Int), .int .i64 (P + 8), .bool true]) ∧ w' = w := by
  subst hP
  refine (readLE_any g n cap p v L r w hA hL hn hd hv).mono fun e w' h => ⟨?_, h.2⟩
  rw [h.1]
  rfl

/-- The first record: onto a clone, which has no room. -/
theorem dbl_first (f : Int) (d : Nat) (a : Option Addr) (l : List UInt8) (w : World) (hd : d < 18446744073709551616) (hl : l.length ≤ 1048576) (hn : a = none → l = []) (hb : Bts w a l) :
    Calls Try.prog 10 #[.slice a l.length l.length, .int .i64 f, .float .f64 d] w fun e w' => Owned w.heap.size (l.length + (Pl.recOf f d).length) (Lib.byteCells (l ++ Pl.recOf f d)) w e w' := by
  have hp := rec_pos f d
  refine (dbl_full l.length f d a _ w hd (hb.full hn) (by omega)).mono fun e w' h => ?_
  rw [cells_join] at h
  exact h
/-- The second: onto what the call owns. -/
theorem dbl_second (B m n : Nat) (f : Int) (d : Nat) (v : Value) (l : List UInt8) (w : World) (hn : m + (Pl.recOf f d).length = n) (hd : d < 18446744073709551616) (hl : m ≤ 1048594) (hown : w.ownsRow B 5 1 v m (Lib.byteCells l)) (hB : B ≤ w.heap.size) :
    Calls Try.prog 10 #[v, .int .i64 f, .float .f64 d] w fun e w' => ∃ g cap, e = .returned (.slice (some ⟨g, 0, none⟩) n cap) ∧ n ≤ cap ∧ cap ≤ maxLen ∧ At w' g (l ++ Pl.recOf f d) ∧ Below B w w' := by
  subst hn
  have hp := rec_pos f d
  refine (dbl_own B m f d v _ w hd hown hB (by omega)).mono fun e w' h => ?_
  obtain ⟨v2, rfl, h1, h2⟩ := h
  rw [cells_join] at h1
  obtain ⟨g, cap, rfl, h3, h4, h5, h6⟩ := owned_open h1 (by omega)
  exact ⟨g, cap, rfl, h3, h4, fun i hi => h6 i (by omega), h2⟩

theorem rec_len2 (f : Int) (d : Nat) : (Pl.recOf f d).length = (Lib.uvarint (Pl.key f)).length + 8 := by
  unfold Pl.recOf; rw [List.length_append, Lib.leBytes_length]
theorem key_parts (f : Int) (h1 : 1 ≤ f) (h2 : f ≤ 536870911) : ((Pl.key f : Nat) : Int) / 8 = f ∧ ((Pl.key f : Nat) : Int) % 8 = 1 ∧ (Lib.uvarint (Pl.key f)).length ≤ 5 := by
  have hk := Pl.key_small f h1 h2
  refine ⟨by omega, by omega, ?_⟩
  rw [Pl.vlen_eq (Pl.key_lt f)]
  exact Pl.vlen_small (by omega)

theorem drop_app (A B : List UInt8) (n : Nat) (h : A.length = n) : (A ++ B).drop n = B := by subst h; simp
theorem drop1 (l : List UInt8) (f1 : Int) (d1 : Nat) (f2 : Int) (d2 : Nat) : (l ++ Pl.recOf f1 d1 ++ Pl.recOf f2 d2).drop l.length = Lib.uvarint (Pl.key f1) ++ (Lib.leBytes 8 d1 ++ Pl.recOf f2 d2) := by
  rw [List.append_assoc, drop_app _ _ _ rfl]
  unfold Pl.recOf
  rw [List.append_assoc]
theorem drop2 (l : List UInt8) (f1 : Int) (d1 : Nat) (f2 : Int) (d2 : Nat) : (l ++ Pl.recOf f1 d1 ++ Pl.recOf f2 d2).drop (l.length + (Lib.uvarint (Pl.key f1)).length) = Lib.leBytes 8 d1 ++ Pl.recOf f2 d2 := by
  rw [← List.drop_drop, drop1, drop_app _ _ _ rfl]
theorem drop3 (l : List UInt8) (f1 : Int) (d1 : Nat) (f2 : Int) (d2 : Nat) : (l ++ Pl.recOf f1 d1 ++ Pl.recOf f2 d2).drop (l.length + (Lib.uvarint (Pl.key f1)).length + 8) = Lib.uvarint (Pl.key f2) ++ Lib.leBytes 8 d2 := by
  rw [← List.drop_drop, drop2, drop_app _ _ _ (Lib.leBytes_length 8 d1)]
  rfl
theorem drop4 (l : List UInt8) (f1 : Int) (d1 : Nat) (f2 : Int) (d2 : Nat) : (l ++ Pl.recOf f1 d1 ++ Pl.recOf f2 d2).drop (l.length + (Lib.uvarint (Pl.key f1)).length + 8 + (Lib.uvarint (Pl.key f2)).length) = Lib.leBytes 8 d2 := by
  rw [← List.drop_drop, drop3, drop_app _ _ _ rfl]

set_option maxRecDepth 100000 in
set_option maxHeartbeats 4000000 in
theorem walk4 (a : Option Addr) (cap : Nat) (l : List UInt8) (f1 : Int) (d1 : Nat) (f2 : Int) (d2 : Nat) (w : World) (hl : l.length ≤ maxLen) (hn : a = none → l = []) (hb : Bts w a l) (hd1 : d1 < 18446744073709551616) (hd2 : d2 < 18446744073709551616) :
    Calls Try.prog 4 #[.slice a l.length cap, .int .i64 f1, .float .f64 d1, .int .i64 f2, .float .f64 d2] w fun e w' => e = .returned (.bool true) ∧ Below w.heap.size w w' := by
  by_cases hs : l.length ≤ 1048576
  · have hdc : decide (l.length ≤ 1048576) = true := decide_eq_true hs
    have hb1 := bits_call d1
    have hb2 := bits_call d2
    have HD1 : Hid (d1 < 18446744073709551616) := hd1
    have HD2 : Hid (d2 < 18446744073709551616) := hd2
    have HN : Hid (a = none → l = []) := hn
    have HB : Hid (Bts w a l) := hb
    clear hd1 hd2 hn hb
    go_enter Try.func4, Try.ntmps4
    go_wp2_with (go_at_call 8; refine (bytes8 _ _ _ _ _ _ _ _ hl).mono ?_; rintro e w' ⟨rfl, rfl⟩)
    all_goals first | (go_ret; exact ⟨rfl, Below.refl _ _⟩) | skip
    have g1 : 1 ≤ f1 := by omega
    have g2 : f1 ≤ 536870911 := by omega
    have g3 : 1 ≤ f2 := by omega
    have g4 : f2 ≤ 536870911 := by omega
    obtain ⟨p1, p2, p3⟩ := key_parts f1 g1 g2
    obtain ⟨q1, q2, q3⟩ := key_parts f2 g3 g4
    have P1 : Hid (((Pl.key f1 : Nat) : Int) / 8 = f1) := p1
    have P2 : Hid (((Pl.key f1 : Nat) : Int) % 8 = 1) := p2
    have Q1 : Hid (((Pl.key f2 : Nat) : Int) / 8 = f2) := q1
    have Q2 : Hid (((Pl.key f2 : Nat) : Int) % 8 = 1) := q2
    have R1 := rec_len2 f1 d1
    have R2 := rec_len2 f2 d2
    generalize hU1 : (Lib.uvarint (Pl.key f1)).length = U1 at p3 R1
    generalize hU2 : (Lib.uvarint (Pl.key f2)).length = U2 at q3 R2
    have HU1 : Hid ((Lib.uvarint (Pl.key f1)).length = U1) := hU1
    have HU2 : Hid ((Lib.uvarint (Pl.key f2)).length = U2) := hU2
    have HR1 : Hid ((Pl.recOf f1 d1).length = U1 + 8) := R1
    have HR2 : Hid ((Pl.recOf f2 d2).length = U2 + 8) := R2
    clear p1 p2 q1 q2 R1 R2 hU1 hU2
    refine (clone_any _ _ _ _ hs HN.out HB.out).mono ?_
    rintro e w1 ⟨a1, rfl, k1, z1, n1⟩
    have K1 : Hid (Bts w1 a1 l) := k1
    have Z1 : Hid (a1 = none → l = []) := z1
    clear k1 z1
    go_wp2_with fail
    refine (clone_any _ _ _ _ hs Z1.out K1.out).mono ?_
    rintro e w2 ⟨a2, rfl, k2, z2, n2⟩
    have K1b : Hid (Bts w2 a1 l) := K1.out.below n2
    have K2 : Hid (Bts w2 a2 l) := k2
    have N2 := n1.trans (n2.mono n1.size)
    clear k2 z2 n1 n2 K1
    go_wp2_with fail
    refine (dbl_first _ _ _ _ _ HD1.out hs Z1.out K1b.out).mono ?_
    rintro e w3 ⟨v3, rfl, o3, n3⟩
    rw [HR1.out] at o3
    have O3 : Hid (w3.ownsRow w2.heap.size 5 1 v3 (l.length + (U1 + 8)) (Lib.byteCells (l ++ Pl.recOf f1 d1))) := o3
    have S3 := n3.size
    clear o3 K1b Z1
    go_wp2_with fail
    refine (dbl_second w2.heap.size _ (l.length + (U1 + 8) + (U2 + 8)) _ _ _ _ _ (by rw [HR2.out]) HD2.out (by omega) O3.out S3).mono ?_
    rintro e w4 ⟨g, c4, rfl, m4, x4, t4, n4⟩
    have K4 : Hid (Bts w4 a2 l) := K2.out.below (n3.trans n4)
    have N4 := N2.trans ((n3.trans n4).mono N2.size)
    obtain ⟨OUT, hOUT⟩ : ∃ OUT, OUT = l ++ Pl.recOf f1 d1 ++ Pl.recOf f2 d2 := ⟨_, rfl⟩
    rw [← hOUT] at t4
    have T4 : Hid (At w4 g OUT) := t4
    have TH : Hid (Bts w4 (some ⟨g, 0, none⟩) l) := by
      have t5 := t4
      rw [hOUT, List.append_assoc] at t5
      exact t5.head
    have LO : Hid (OUT.length = l.length + (U1 + 8) + (U2 + 8)) := by
      show _ = _
      rw [hOUT, List.length_append, List.length_append, HR1.out, HR2.out]
    have D1 : Hid (OUT.drop l.length = Lib.uvarint (Pl.key f1) ++ (Lib.leBytes 8 d1 ++ Pl.recOf f2 d2)) := by
      show _ = _
      rw [hOUT]; exact drop1 l f1 d1 f2 d2
    have D2 : Hid (OUT.drop (l.length + U1) = Lib.leBytes 8 d1 ++ Pl.recOf f2 d2) := by
      show _ = _
      rw [hOUT, ← HU1.out]; exact drop2 l f1 d1 f2 d2
    have D3 : Hid (OUT.drop (l.length + U1 + 8) = Lib.uvarint (Pl.key f2) ++ Lib.leBytes 8 d2) := by
      show _ = _
      rw [hOUT, ← HU1.out]; exact drop3 l f1 d1 f2 d2
    have D4 : Hid (OUT.drop (l.length + U1 + 8 + U2) = Lib.leBytes 8 d2 ++ []) := by
      show _ = _
      rw [hOUT, ← HU1.out, ← HU2.out, List.append_nil]; exact drop4 l f1 d1 f2 d2
    clear t4 n4 n3 N2 K2 O3 hOUT S3 HR1 HR2
    unfold maxLen at x4
    go_wp2_with fail
    refine (equal_n _ _ _ _ _ _ l l _ rfl rfl (by omega) (by omega) TH.out K4.out).mono ?_
    rintro e w5 ⟨rfl, qq, rfl⟩
    rw [show decide (l = l) = true from decide_eq_true rfl]
    go_wp2_with fail
    refine (readKey_i g _ _ l.length (Pl.key f1) U1 OUT _ _ _ f1 rfl HU1.out P1.out P2.out (T4.out.drewN qq) LO.out (by omega) D1.out (Pl.key_lt f1)).mono ?_
    rintro e w6 ⟨rfl, rfl⟩
    go_wp2_with fail
    refine (readLE_i g _ _ (l.length + U1) d1 OUT _ _ _ (by omega) (T4.out.drewN qq) LO.out (by omega) D2.out HD1.out).mono ?_
    rintro e w7 ⟨rfl, rfl⟩
    go_wp2_with fail
    refine (readKey_i g _ _ (l.length + U1 + 8) (Pl.key f2) U2 OUT _ _ _ f2 (by omega) HU2.out Q1.out Q2.out (T4.out.drewN qq) LO.out (by omega) D3.out (Pl.key_lt f2)).mono ?_
    rintro e w8 ⟨rfl, rfl⟩
    go_wp2_with fail
    refine (readLE_i g _ _ (l.length + U1 + 8 + U2) d2 OUT _ _ _ (by omega) (T4.out.drewN qq) LO.out (by omega) D4.out HD2.out).mono ?_
    rintro e w9 ⟨rfl, rfl⟩
    have hfin : ((l.length : Int) + (U1 : Int) + 8 + (U2 : Int) + 8 == (l.length : Int) + ((U1 : Int) + 8) + ((U2 : Int) + 8)) = true := beq_iff_eq.2 (by omega)
    go_wp2
    go_ret
    exact ⟨rfl, below_drewN N4 qq⟩
  · have hdc : decide (l.length ≤ 1048576) = false := decide_eq_false hs
    clear hb hn
    go_enter Try.func4, Try.ntmps4
    go_wp2_with (go_at_call 8; refine (bytes8 _ _ _ _ _ _ _ _ hl).mono ?_; rintro e w' ⟨rfl, rfl⟩)
    go_ret
    exact ⟨rfl, Below.refl _ _⟩
end Go.Proofs.Qxb6605921a
