/-
  The walks of the readers: b1ReadUvarint, b1ReadKey, b1ReadLE64.
-/
import Derived.Test.Qxb6605921aUse
import Derived.Test.Qxb6605921aRead
import Derived.Lib.VarintBits
namespace Go.Proofs.Qxb6605921a
open Go.RowKit

theorem u8_nat {c : Nat} (h : c < 256) : (c.toUInt8).toNat = c := Lib.toUInt8_toNat h

/-- The cell of the next byte. -/
theorem next_cell {w : World} {g : Nat} {L r : List UInt8} {p x i sh acc y : Nat} {pre : List UInt8} (hA : At w g L) (hd : L.drop p = Lib.uvarint x ++ r) (h : Pl.St x i sh acc y pre) :
    w.cell? ⟨g, p + i, none⟩ = some (.int .u8 ((if 128 ≤ y then y % 128 + 128 else y % 128 : Nat) : Int)) := by
  have hlt := h.ilt
  have hl := Pl.drop_len hd (by omega)
  rw [hA (p + i) (by omega)]
  unfold bv
  rw [Pl.at_drop hd hlt, h.byte]
  simp only [Option.getD_some]
  by_cases hy : 128 ≤ y
  · rw [if_pos hy, if_pos hy, u8_nat (by omega)]
  · rw [if_neg hy, if_neg hy, u8_nat (by omega)]
    congr 2
    omega

set_option maxRecDepth 100000 in
set_option maxHeartbeats 2000000 in
theorem readUvarint_any (g n cap p x : Nat) (L r : List UInt8) (w : World) (hA : At w g L) (hL : L.length = n) (hn : n ≤ 2097152) (hd : L.drop p = Lib.uvarint x ++ r) (hx : x < 18446744073709551616) :
    Calls Try.prog 19 #[.slice (some ⟨g, 0, none⟩) n cap, .int .i64 p] w fun e w' => e = .returned (.tuple #[.int .u64 (x : Int), .int .i64 ((p + (Lib.uvarint x).length : Nat) : Int), .bool true]) ∧ w' = w := by
  have hpos := Lib.uvarint_pos x
  have hpl := Pl.drop_len hd (by omega)
  have HX : Hid (x < 18446744073709551616) := hx
  have HA : Hid (At w g L) := hA
  have HD : Hid (L.drop p = Lib.uvarint x ++ r) := hd
  have HP : Hid (p + (Lib.uvarint x).length ≤ n) := by rw [← hL]; exact hpl
  clear hx hA hd hL hpl hpos
  go_enter Try.func19, Try.ntmps19
  go_wp2
  go_loop [1, 7, 8, 9] (fun ps vx vs vi => ∃ (i P sh acc y : Nat) (pre : List UInt8), i ≤ 9 ∧ P = p + i ∧ ps = .int .i64 P ∧ vx = .int .u64 acc ∧ vs = .int .u64 sh ∧ vi = .int .i64 i ∧ Pl.St x i sh acc y pre) (fun _ _ _ vi => 10 - (intOf vi).toNat)
  case atStart => exact ⟨0, p, 0, 0, x, [], by omega, rfl, rfl, rfl, rfl, rfl, Pl.St.start x⟩
  case round =>
    obtain ⟨i, P, sh, acc, y, pre, hi, hP0, rfl, rfl, rfl, rfl, hst⟩ := hrel
    have HPE : Hid (P = p + i) := hP0
    have HST : Hid (Pl.St x i sh acc y pre) := hst
    have hilt := hst.ilt
    have hPn : P < n := by have := HP.out; omega
    have hcell := next_cell HA.out HD.out hst
    rw [← hP0] at hcell
    obtain ⟨hsm, hsh⟩ := hst.small HX.out hi
    have hacc : acc < 18446744073709551616 := by have h1 := hst.sum; have h2 := HX.out; omega
    have hor := Pl.or_shift hst.low hsm hacc
    generalize hm : y % 128 = m at hcell hor
    have hm128 : m < 128 := by omega
    generalize hacc' : acc + 2 ^ sh * m = acc' at hor
    have HM : Hid (y % 128 = m) := hm
    have HACC : Hid (acc + 2 ^ sh * m = acc') := hacc'
    clear hP0 hst hilt hsm hacc hm hacc'
    by_cases hy : 128 ≤ y
    · rw [if_pos hy] at hcell
      have hb := HST.out.big HX.out hy
      obtain ⟨hi8, hs56⟩ := hb
      have hand : bits BinOp.and IntKind.u8 ((m + 128 : Nat) : Int) 127 = (m : Int) := by
        have h := u8_and127 (x := ((m + 128 : Nat) : Int)) (by omega) (by omega)
        rw [h]; omega
      generalize hc : m + 128 = c at hcell hand
      have hc1 : 128 ≤ (c : Int) := by omega
      have hc2 : (c : Int) < 256 := by omega
      have hi9 : ((i : Int) == 9) = false := beq_eq_false_iff_ne.2 (by omega)
      clear hc
      go_wp2
      go_round
      case rel =>
        have hnx := HST.out.next hy
        rw [HM.out, HACC.out] at hnx
        exact ⟨i + 1, P + 1, sh + 7, acc', y / 128, _, by omega, by have := HPE.out; omega, by go_num, rfl, by go_num, by go_num, hnx⟩
      case measure => simp [intOf]; omega
    · rw [if_neg hy] at hcell
      have hym : y = m := by have := HM.out; omega
      have hdn := HST.out.done (by omega)
      rw [HM.out, HACC.out] at hdn
      have HDN : Hid (acc' = x ∧ (Lib.uvarint x).length = i + 1) := hdn
      have hand : bits BinOp.and IntKind.u8 (m : Int) 127 = (m : Int) := by
        have h := u8_and127 (x := (m : Int)) (by omega) (by omega)
        rw [h]; omega
      have hpos := HST.out.pos
      have hlast := HST.out.last HX.out
      rw [hym] at hpos hlast
      clear hym hdn hy
      by_cases h9 : i = 9
      · have hi9 : ((i : Int) == 9) = true := beq_iff_eq.2 (by omega)
        have hm1 : (m : Int) ≤ 1 := by have := hlast h9; omega
        have hm0 : ((m : Int) == 0) = false := beq_eq_false_iff_ne.2 (by omega)
        have hi0 : (0 : Int) < (i : Int) := by omega
        clear hpos hlast
        go_wp2
        go_ret3
        obtain ⟨e1, e2⟩ := HDN.out
        exact ⟨by rw [e1, e2, HPE.out]; rfl, rfl⟩
      · have hi9 : ((i : Int) == 9) = false := beq_eq_false_iff_ne.2 (by omega)
        by_cases h0 : i = 0
        · have hi0 : ¬ (0 : Int) < (i : Int) := by omega
          clear hpos hlast
          go_wp2
          go_ret3
          obtain ⟨e1, e2⟩ := HDN.out
          exact ⟨by rw [e1, e2, HPE.out]; rfl, rfl⟩
        · have hi0 : (0 : Int) < (i : Int) := by omega
          have hm0 : ((m : Int) == 0) = false := beq_eq_false_iff_ne.2 (by omega)
          clear hpos hlast
          go_wp2
          go_ret3
          obtain ⟨e1, e2⟩ := HDN.out
          exact ⟨by rw [e1, e2, HPE.out]; rfl, rfl⟩

theorem and7 (x : Nat) (hx : x < 18446744073709551616) : bits BinOp.and IntKind.u64 (x : Int) 7 = ((x % 8 : Nat) : Int) := by
  have h := u64_and_nat x 7 hx (by omega)
  rw [nat_mask3] at h
  exact h

set_option maxHeartbeats 1000000 in
theorem readKey_any (g n cap p x : Nat) (L r : List UInt8) (w : World) (hA : At w g L) (hL : L.length = n) (hn : n ≤ 2097152) (hd : L.drop p = Lib.uvarint x ++ r) (hx : x < 18446744073709551616) :
    Calls Try.prog 12 #[.slice (some ⟨g, 0, none⟩) n cap, .int .i64 p] w fun e w' => e = .returned (.tuple #[.int .u64 ((x : Int) / 8), .int .u64 ((x : Int) % 8), .int .i64 ((p : Int) + ((Lib.uvarint x).length : Int)), .bool true]) ∧ w' = w := by
  have hand := and7 x hx
  have HX : Hid (x < 18446744073709551616) := hx
  clear hx
  go_enter Try.func12, Try.ntmps12
  go_wp2_with (go_at_call 19; refine (readUvarint_any g n cap p x L r _ hA hL hn hd HX.out).mono ?_; rintro e w' ⟨rfl, rfl⟩)
  exact bodyPost_ret (v := .tuple #[.int .u64 ((x : Int) / 8), .int .u64 ((x : Int) % 8), .int .i64 ((p : Int) + ((Lib.uvarint x).length : Int)), .bool true]) (by simp [results, Try.results12, go_sem]) rfl ⟨rfl, rfl⟩

set_option maxRecDepth 100000 in
set_option maxHeartbeats 2000000 in
theorem readLE_any (g n cap p v : Nat) (L r : List UInt8) (w : World) (hA : At w g L) (hL : L.length = n) (hn : n ≤ 2097152) (hd : L.drop p = Lib.leBytes 8 v ++ r) (hv : v < 18446744073709551616) :
    Calls Try.prog 13 #[.slice (some ⟨g, 0, none⟩) n cap, .int .i64 p] w fun e w' => e = .returned (.tuple #[.int .u64 (v : Int), .int .i64 ((p + 8 : Nat) : Int), .bool true]) ∧ w' = w := by
  have hlb := Lib.leBytes_length 8 v
  have hpl := Pl.drop_len hd (by omega)
  have HV : Hid (v < 18446744073709551616) := hv
  have HA : Hid (At w g L) := hA
  have HD : Hid (L.drop p = Lib.leBytes 8 v ++ r) := hd
  have HLB : Hid ((Lib.leBytes 8 v).length = 8) := hlb
  have hp8 : p + 8 ≤ n := by omega
  have HLN : Hid (L.length = n) := hL
  clear hv hA hd hL hpl hlb
  go_enter Try.func13, Try.ntmps13
  go_wp2
  go_loop [7, 8] (fun vx vi => ∃ i : Nat, i ≤ 8 ∧ vi = .int .i64 i ∧ vx = .int .u64 ((v % 2 ^ (8 * i) : Nat) : Int)) (fun _ vi => 8 - (intOf vi).toNat)
  case atStart => exact ⟨0, by omega, rfl, by simp [Nat.mod_one]⟩
  case round =>
    obtain ⟨i, hi, rfl, rfl⟩ := hrel
    by_cases hlt : i < 8
    · have hcell : w.cell? ⟨g, p + i, none⟩ = some (.int .u8 ((v / 256 ^ i % 256 : Nat) : Int)) := by
        have hlb := HLB.out
        rw [HA.out (p + i) (by have := HLN.out; omega)]
        unfold bv
        rw [Pl.at_drop HD.out (by omega), Pl.le_at 8 v i hlt]
        simp only [Option.getD_some]
        rw [u8_nat (by omega)]
      have hstep := Pl.mod_step v i
      have hmod : v % 2 ^ (8 * (i + 1)) ≤ v := Nat.mod_le _ _
      have hor := Pl.or_shift (acc := v % 2 ^ (8 * i)) (m := v / 256 ^ i % 256) (sh := 8 * i) (Nat.mod_lt _ (Pl.pow_pos' _)) (by have := HV.out; omega) (by have := HV.out; omega)
      rw [hstep] at hor
      have hc0 : v / 256 ^ i % 256 < 256 := Nat.mod_lt _ (by omega)
      generalize hnx : v % 2 ^ (8 * (i + 1)) = nx at hor hstep hmod
      have HNX : Hid (v % 2 ^ (8 * (i + 1)) = nx) := hnx
      generalize v % 2 ^ (8 * i) = ac at hor hstep
      generalize v / 256 ^ i % 256 = c at hor hcell hc0
      have hc1 : (c : Int) < 256 := by omega
      clear hstep hmod hnx hc0
      go_wp2
      go_round
      case rel => exact ⟨i + 1, by omega, by go_num, by rw [HNX.out]⟩
      case measure => simp [intOf]; omega
    · obtain rfl : i = 8 := by omega
      have e8 : v % 2 ^ (8 * 8) = v := Nat.mod_eq_of_lt (by have := HV.out; rw [show (2 : Nat) ^ (8 * 8) = 18446744073709551616 by decide]; exact this)
      rw [e8]
      clear e8
      go_wp2
      go_ret3
      exact ⟨rfl, rfl⟩
end Go.Proofs.Qxb6605921a
