/-
  THE SHELL OF A PROOF OF 'Rows.FnListEntryIndentFreeSaid' ('example.com/vestbook/vestbook/zzlaws_plan_b1.FnListEntryIndentFree'), WRITTEN BY PROGRAM (proof-skeleton.mjs) off the guide's own print for that function. Not trusted: Lean checks it.
  The walk is filled in by hand; all else is the guide's template (howto/template/XProofs.lean) at this function's number and types.
-/
import Derived.Test.Qxb6605747aRows
import Derived.Test.Qxb6605747aSpaces
import Derived.WalkKit
import Derived.ProofKit
import Derived.OpenShut
import Derived.ShutString
namespace Go.Proofs.Qxb6605747a.fnListEntryIndentFree
open Go.ChangeShapes Go.WideShapes Go.ChangeAt Go.RowKit
open Go.ChangeMaps (open_string shut_string)
set_option linter.unusedVariables false      -- a walk need not use every 'w<i>' (that an integer argument fits its kind)

theorem own : ownKnob Try.prog.godebug = none := by kernel_rfl

/-! ### What ZZlistEntry answers at the five texts of the law -/
theorem sps_size (n : Nat) : (sps n).size = n := by
  rw [Lib.size_eq]; simp [sps]
theorem e1 (n : Nat) (a : ByteArray) (w : World) (hn : n ≤ 65536) (ha : a.size ≤ 1048576) :
    Calls Try.prog 8 #[.string (sps n ++ ⟨#[45, 32]⟩ ++ a)] w fun e w' => e = .returned (.bool true) ∧ w' = w := by
  have h := entry_any (sps n ++ ⟨#[45, 32]⟩ ++ a) w (by rw [ByteArray.size_append, ByteArray.size_append, sps_size]; unfold maxLen; show n + 2 + a.size ≤ _; omega)
  rwa [show Pl.entry (sps n ++ ⟨#[45, 32]⟩ ++ a).data.toList = true by
    simp only [ByteArray.data_append, Array.toList_append, sps, List.append_assoc, Pl.entry_sp]; exact Pl.entry_dash_sp _] at h
theorem e2 (n : Nat) (a : ByteArray) (w : World) (hn : n ≤ 65536) (ha : a.size ≤ 1048576) :
    Calls Try.prog 8 #[.string (sps n ++ a)] w fun e w' => e = .returned (.bool (Pl.entry a.data.toList)) ∧ w' = w := by
  have h := entry_any (sps n ++ a) w (by rw [ByteArray.size_append, sps_size]; unfold maxLen; omega)
  rwa [show Pl.entry (sps n ++ a).data.toList = Pl.entry a.data.toList by
    simp only [ByteArray.data_append, Array.toList_append, sps, Pl.entry_sp]] at h
theorem e4 (n : Nat) (a : ByteArray) (w : World) (hn : n ≤ 65536) (ha : a.size ≤ 1048576) :
    Calls Try.prog 8 #[.string (sps n ++ ⟨#[45]⟩ ++ a)] w fun e w' => e = .returned (.bool (a.data.toList.head? == some 32)) ∧ w' = w := by
  have h := entry_any (sps n ++ ⟨#[45]⟩ ++ a) w (by rw [ByteArray.size_append, ByteArray.size_append, sps_size]; unfold maxLen; show n + 1 + a.size ≤ _; omega)
  rwa [show Pl.entry (sps n ++ ⟨#[45]⟩ ++ a).data.toList = (a.data.toList.head? == some 32) by
    simp only [ByteArray.data_append, Array.toList_append, sps, List.append_assoc, Pl.entry_sp]; exact Pl.entry_dash _] at h
theorem e5 (n : Nat) (a : ByteArray) (w : World) (hn : n ≤ 65536) (ha : a.size ≤ 1048576) :
    Calls Try.prog 8 #[.string (sps n ++ ⟨#[42]⟩ ++ a)] w fun e w' => e = .returned (.bool false) ∧ w' = w := by
  have h := entry_any (sps n ++ ⟨#[42]⟩ ++ a) w (by rw [ByteArray.size_append, ByteArray.size_append, sps_size]; unfold maxLen; show n + 1 + a.size ≤ _; omega)
  rwa [show Pl.entry (sps n ++ ⟨#[42]⟩ ++ a).data.toList = false by
    simp only [ByteArray.data_append, Array.toList_append, sps, List.append_assoc, Pl.entry_sp]; exact Pl.entry_star _] at h
theorem head_some (a : ByteArray) (h : 0 < a.size) : (a.data.toList.head? == some 32) = ((a[0].toNat : Int) == 32) := by
  have e : a.data.toList.head? = some a[0] := by
    rw [List.head?_eq_getElem?, List.getElem?_eq_getElem (sz h)]; rfl
  rw [e, Bool.eq_iff_iff]
  simp only [beq_iff_eq, Option.some.injEq]
  constructor
  · intro h; rw [h]; rfl
  · intro h; exact bt rfl (beq_iff_eq.2 h)
theorem head_none (a : ByteArray) (h : ¬ 0 < a.size) : (a.data.toList.head? == some 32) = false := by
  have e : a.data.toList = [] := List.length_eq_zero_iff.1 (by rw [← Lib.size_eq]; omega)
  rw [e]; rfl

/-! ### STEP 1: THE WALK: the Go text returns true. 'Grown w w'': the world has at most new blocks (Derived/RowKit3.lean). Part the cases AHEAD of 'go_enter' where a test parts the walk; take each callee by a contract of your own. -/
theorem walk (a0 : Int) (a1 : ByteArray) (w0 : (Lit.int .i64 a0).wf = true) (w1 : a1.size ≤ maxLen) (w : World) :
    Calls Try.prog 4 #[.int .i64 a0, .string a1] w fun e w' => e = .returned (.bool true) ∧ Grown w w' := by
  have w1' := w1
  unfold maxLen at w1'
  by_cases hb : a1.size ≤ 1048576
  · have hd : decide (a1.size ≤ 1048576) = true := decide_eq_true hb
    by_cases h0 : 0 ≤ a0
    · by_cases h1 : a0 ≤ 65536
      · obtain ⟨n, rfl⟩ := Int.eq_ofNat_of_zero_le h0
        have hn : n ≤ 65536 := by omega
        clear h0 h1 w0
        have hsz : (sps n).size ≤ 65536 := by rw [sps_size]; exact hn
        by_cases hz : 0 < a1.size
        · have H4 := head_some a1 hz
          have HH : Hid ((a1.data.toList.head? == some 32) = ((a1[0].toNat : Int) == 32)) := H4
          clear H4
          go_enter Try.func4, Try.ntmps4
          go_wp2_with (first
            | (go_at_call 9; refine (bytes9 _ _ _ w1).mono ?_; rintro e w' ⟨rfl, rfl⟩)
            | (go_at_call 10; refine (spaces_any _ _ hn).mono ?_; rintro e w' ⟨rfl, hg⟩))
          refine (e1 _ _ _ hn hb).mono ?_
          rintro e w2 ⟨rfl, rfl⟩
          go_wp2_with fail
          refine (e2 _ _ _ hn hb).mono ?_
          rintro e w2 ⟨rfl, rfl⟩
          go_wp2_with fail
          refine (entry_any _ _ w1).mono ?_
          rintro e w2 ⟨rfl, rfl⟩
          go_wp2_with fail
          refine (e4 _ _ _ hn hb).mono ?_
          rintro e w2 ⟨rfl, rfl⟩
          rw [HH.out]
          go_wp2_with fail
          refine (e5 _ _ _ hn hb).mono ?_
          rintro e w2 ⟨rfl, rfl⟩
          go_wp2_with fail
          go_ret
          exact ⟨rfl, hg⟩
        · have H4 := head_none a1 hz
          have HH : Hid ((a1.data.toList.head? == some 32) = false) := H4
          clear H4
          go_enter Try.func4, Try.ntmps4
          go_wp2_with (first
            | (go_at_call 9; refine (bytes9 _ _ _ w1).mono ?_; rintro e w' ⟨rfl, rfl⟩)
            | (go_at_call 10; refine (spaces_any _ _ hn).mono ?_; rintro e w' ⟨rfl, hg⟩))
          refine (e1 _ _ _ hn hb).mono ?_
          rintro e w2 ⟨rfl, rfl⟩
          go_wp2_with fail
          refine (e2 _ _ _ hn hb).mono ?_
          rintro e w2 ⟨rfl, rfl⟩
          go_wp2_with fail
          refine (entry_any _ _ w1).mono ?_
          rintro e w2 ⟨rfl, rfl⟩
          go_wp2_with fail
          refine (e4 _ _ _ hn hb).mono ?_
          rintro e w2 ⟨rfl, rfl⟩
          rw [HH.out]
          go_wp2_with fail
          refine (e5 _ _ _ hn hb).mono ?_
          rintro e w2 ⟨rfl, rfl⟩
          go_wp2_with fail
          go_ret
          exact ⟨rfl, hg⟩
      · go_enter Try.func4, Try.ntmps4
        go_wp2_with (first
          | (go_at_call 9; refine (bytes9 _ _ _ w1).mono ?_; rintro e w' ⟨rfl, rfl⟩))
        go_ret
        exact ⟨rfl, Grown.refl _⟩
    · go_enter Try.func4, Try.ntmps4
      go_wp2_with (first
        | (go_at_call 9; refine (bytes9 _ _ _ w1).mono ?_; rintro e w' ⟨rfl, rfl⟩))
      go_ret
      exact ⟨rfl, Grown.refl _⟩
  · have hd : decide (a1.size ≤ 1048576) = false := decide_eq_false hb
    go_enter Try.func4, Try.ntmps4
    go_wp2_with (go_at_call 9; refine (bytes9 _ _ _ w1).mono ?_; rintro e w' ⟨rfl, rfl⟩)
    go_ret
    exact ⟨rfl, Grown.refl _⟩

/-! ### THE ROW's STEP: WRITTEN OUT: LEAVE IT -/
set_option maxRecDepth 100000 in
theorem lifted (os : Os) (started : os.Started) (H : Type) (enc : TypeId × Value → H) :
    ReturnsInHanded {} Try.checked os 4 .any (Rows.fnListEntryIndentFreeSpec.pre6 enc Try.prog Try.f4 Rows.fnListEntryIndentFreeRow.domain false) (Rows.fnListEntryIndentFreeSpec.post enc Try.prog Try.f4 false true false false) := by
  refine returnsInHanded_of_change (C := Try.checked) own started (by kernel_rfl) Try.func4
    (ChangeSpec.witness6 (enc := enc) (C := Try.checked) false ⟨#[], #[.int .i64 0, .string ByteArray.empty], []⟩ 8 (by kernel_rfl) (by kernel_rfl) (by kernel_rfl) (by kernel_rfl)) ?_
  intro W base args ds gs before hval0 hW hcnd _
  have hval : ∀ (j : Nat) t v, Try.f4.params[j]? = some t → args[j]? = some v → Value.okWide Try.prog W .any base t v := hval0
  have hW' := hW
  obtain ⟨p, q, hA0, hV, rfl, hfz, hnd⟩ := hW
  have hA : DataW.TrodAll enc Try.prog W 0 (fun _ => true) true Try.f4.params.toList args.toList ds p := hA0
  rw [Try.params4] at hA hval
  obtain ⟨v0, vs0, d0, ds0, p0, q0, hargs, rfl, rfl, h0, r0⟩ := trodAll_cons hA
  obtain ⟨v1, vs1, d1, ds1, p1, q1, rfl, rfl, rfl, h1, r1⟩ := trodAll_cons r0
  obtain ⟨rfl, rfl, rfl⟩ := trodAll_nil r1
  obtain rfl : args = #[v0, v1] := by cases args; simp_all
  obtain ⟨rfl, rfl⟩ := trodVars_none hV
  obtain ⟨a0, rfl, rfl, rfl, w0⟩ := open_int Try.underlying3 (hval 0 3 v0 rfl rfl) h0
  obtain ⟨a1, rfl, rfl, rfl, w1⟩ := open_string Try.underlying9 (hval 1 9 v1 rfl rfl) h1
  clear hA0 hval0
  simp only [List.append_nil] at hW'
  refine (walk a0 a1 w0 w1 W).mono fun e W' ⟨he, hg⟩ => ?_
  subst he
  exact ⟨_, rfl, post_of_same (pa := []) (pv := []) hW' (fun _ _ _ => (trodAll_cons_mk (shut_bool Try.underlying4 _) trodAll_mk0)) (fun sp _ => (trodAll_cons_mk (shut_int Try.underlying3 w0) (trodAll_cons_mk (shut_string Try.underlying9 w1) trodAll_mk0))) (fun _ _ => rfl) rfl
    (hg.frame _) hg.2.1 (ok_one (by kernel_rfl) rfl (okWide_bool_mk Try.underlying4 _))⟩

theorem over : Rows.fnListEntryIndentFreeRow.holds Try.pinned (OpenSpec.ofChange Rows.fnListEntryIndentFreeSpec) :=
  OpenClaim.holds_of_wide 4 Try.f4 rfl rfl rfl rfl rfl rfl rfl ⟨rfl, rfl, rfl, rfl, rfl⟩ rfl rfl rfl rfl rfl (by kernel_rfl) Try.func4 (by kernel_rfl)
    (of_decide_eq_true (by kernel_rfl)) (by unfold Func.isWrapper; first | (rw [if_pos (by decide +kernel)]; kernel_rfl) | (rw [if_neg (by decide +kernel)]; exact ⟨rfl, rfl⟩))
    (fun os started H enc _ => lifted os started H enc)

/-- ████ THE STATEMENT ████ -/
theorem proved : Rows.FnListEntryIndentFreeSaid :=
  over
#print axioms proved
end Go.Proofs.Qxb6605747a.fnListEntryIndentFree
