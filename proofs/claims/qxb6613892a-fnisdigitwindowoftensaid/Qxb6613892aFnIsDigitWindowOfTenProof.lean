/-
  The law FnIsDigitWindowOfTen: of the ten bytes from c on exactly max(0, 10 - |c - 48|) are digits.
-/
import Derived.Test.Qxb6613892aRows
import Derived.WalkKit
import Derived.ProofKit
import Derived.OpenShut
import Derived.ShutString
namespace Go.Proofs.Qxb6613892a.fnIsDigitWindowOfTen
open Go.ChangeShapes Go.WideShapes Go.ChangeAt Go.RowKit
open Go.ChangeMaps (open_string shut_string)
set_option linter.unusedVariables false      -- a walk need not use every 'w<i>' (that an integer argument fits its kind)

theorem own : ownKnob Try.prog.godebug = none := by kernel_rfl

/-! ### STEP 1: THE WALK -/
def digB (x : Int) : Bool := decide (48 ≤ x ∧ x ≤ 57)
def cnt (c : Int) : Nat → Int
  | 0 => 0
  | k + 1 => cnt c k + if digB ((c + (k : Int)) % 256) = true then 1 else 0

theorem cnt_bd (c : Int) (k : Nat) : 0 ≤ cnt c k ∧ cnt c k ≤ k := by
  induction k with
  | zero => simp [cnt]
  | succ k ih => simp only [cnt]; split <;> omega

def want (c : Int) : Int :=
  if (if c - 48 < 0 then -(c - 48) else c - 48) < 10 then 10 - (if c - 48 < 0 then -(c - 48) else c - 48) else 0

theorem cnt_want_nat : ∀ c : Fin 256, cnt (c.val : Int) 10 = want (c.val : Int) := by decide +kernel

theorem cnt_want (c : Int) (h0 : 0 ≤ c) (h1 : c ≤ 255) : cnt c 10 = want c := by
  have := cnt_want_nat ⟨c.toNat, by omega⟩
  simpa [Int.toNat_of_nonneg h0] using this

set_option maxHeartbeats 400000 in
theorem isDigit_yes (x : Int) (w : World) (h : digB x = true) :
    Calls Try.prog 4 #[.int .u8 x] w fun e w' => e = .returned (.bool true) ∧ w' = w := by
  have h' : 48 ≤ x ∧ x ≤ 57 := by simpa [digB] using h
  obtain ⟨h1, h2⟩ := h'
  clear h
  go_enter Try.func4, Try.ntmps4
  go_wp2
  go_ret
  exact ⟨rfl, rfl⟩

set_option maxHeartbeats 400000 in
theorem isDigit_no (x : Int) (w : World) (h : digB x = false) :
    Calls Try.prog 4 #[.int .u8 x] w fun e w' => e = .returned (.bool false) ∧ w' = w := by
  have h' : ¬ (48 ≤ x ∧ x ≤ 57) := by simpa [digB] using h
  clear h
  by_cases h1 : 48 ≤ x
  · have h2 : ¬ x ≤ 57 := fun hh => h' ⟨h1, hh⟩
    clear h'
    go_enter Try.func4, Try.ntmps4
    go_wp2
    go_ret
    exact ⟨rfl, rfl⟩
  · clear h'
    go_enter Try.func4, Try.ntmps4
    go_wp2
    go_ret
    exact ⟨rfl, rfl⟩

theorem ret_true {b : Bool} (h : b = true) : Ending.returned (.bool b) = .returned (.bool true) := by rw [h]

set_option maxHeartbeats 400000 in
theorem walk (a0 : Int) (w0 : (Lit.int .u8 a0).wf = true) (w : World) :
    Calls Try.prog 3 #[.int .u8 a0] w fun e w' => e = .returned (.bool true) ∧ Grown w w' := by
  have hb : 0 ≤ a0 ∧ a0 ≤ 255 := bounds_u8 w0
  obtain ⟨hb0, hb1⟩ := hb
  have HW : Hid (cnt a0 10 = want a0) := cnt_want a0 hb0 hb1
  clear w0
  go_enter Try.func3, Try.ntmps3
  go_wp2_with fail
  go_loop [3, 4] (fun n i => ∃ k : Nat, k ≤ 10 ∧ i = .int .i64 k ∧ n = .int .i64 (cnt a0 k)) (fun _ i => 10 - (intOf i).toNat)
  case atStart => exact ⟨0, Nat.zero_le _, rfl, rfl⟩
  case round =>
    obtain ⟨k, hk, rfl, rfl⟩ := hrel
    have hc := cnt_bd a0 k
    obtain ⟨hc0, hc1⟩ := hc
    by_cases hlt : k < 10
    · have HS : Hid (cnt a0 (k + 1) = cnt a0 k + if digB ((a0 + (k : Int)) % 256) = true then 1 else 0) := (rfl : cnt a0 (k + 1) = _)
      cases hd : digB ((a0 + (k : Int)) % 256) with
      | true =>
        have HD : Hid (digB ((a0 + (k : Int)) % 256) = true) := hd
        clear hd
        go_wp2_with fail
        refine (isDigit_yes _ _ HD.out).mono ?_
        rintro e w' ⟨rfl, rfl⟩
        go_wp2_with fail
        go_round
        case rel => exact ⟨k + 1, by omega, by go_num, by rw [HS.out, if_pos HD.out]⟩
        case measure => simp [intOf]; omega
      | false =>
        have HD : Hid (digB ((a0 + (k : Int)) % 256) = false) := hd
        clear hd
        go_wp2_with fail
        refine (isDigit_no _ _ HD.out).mono ?_
        rintro e w' ⟨rfl, rfl⟩
        go_wp2_with fail
        go_round
        case rel => exact ⟨k + 1, by omega, by go_num, by rw [HS.out, HD.out]; simp⟩
        case measure => simp [intOf]; omega
    · have HK : Hid (k = 10) := (show k = 10 by omega)
      go_wp2_with fail
      all_goals
        go_ret
        refine ⟨ret_true ?_, Grown.refl _⟩
        rw [HK.out, HW.out, beq_iff_eq]
        simp only [want]
        repeat (first | rw [if_pos (by omega)] | rw [if_neg (by omega)])
        try omega

/-! ### THE ROW's STEP: WRITTEN OUT: LEAVE IT -/
set_option maxRecDepth 100000 in
theorem lifted (os : Os) (started : os.Started) (H : Type) (enc : TypeId × Value → H) :
    ReturnsInHanded {} Try.checked os 3 .any (Rows.fnIsDigitWindowOfTenSpec.pre6 enc Try.prog Try.f3 Rows.fnIsDigitWindowOfTenRow.domain false) (Rows.fnIsDigitWindowOfTenSpec.post enc Try.prog Try.f3 false true false false) := by
  refine returnsInHanded_of_change (C := Try.checked) own started (by kernel_rfl) Try.func3
    (ChangeSpec.witness6 (enc := enc) (C := Try.checked) false ⟨#[], #[.int .u8 0], []⟩ 8 (by kernel_rfl) (by kernel_rfl) (by kernel_rfl) (by kernel_rfl)) ?_
  intro W base args ds gs before hval0 hW hcnd _
  have hval : ∀ (j : Nat) t v, Try.f3.params[j]? = some t → args[j]? = some v → Value.okWide Try.prog W .any base t v := hval0
  have hW' := hW
  obtain ⟨p, q, hA0, hV, rfl, hfz, hnd⟩ := hW
  have hA : DataW.TrodAll enc Try.prog W 0 (fun _ => true) true Try.f3.params.toList args.toList ds p := hA0
  rw [Try.params3] at hA hval
  obtain ⟨v0, vs0, d0, ds0, p0, q0, hargs, rfl, rfl, h0, r0⟩ := trodAll_cons hA
  obtain ⟨rfl, rfl, rfl⟩ := trodAll_nil r0
  obtain rfl : args = #[v0] := by cases args; simp_all
  obtain ⟨rfl, rfl⟩ := trodVars_none hV
  obtain ⟨a0, rfl, rfl, rfl, w0⟩ := open_int Try.underlying5 (hval 0 5 v0 rfl rfl) h0
  clear hA0 hval0
  simp only [List.append_nil] at hW'
  refine (walk a0 w0 W).mono fun e W' ⟨he, hg⟩ => ?_
  subst he
  exact ⟨_, rfl, post_of_same (pa := []) (pv := []) hW' (fun _ _ _ => (trodAll_cons_mk (shut_bool Try.underlying4 _) trodAll_mk0)) (fun sp _ => (trodAll_cons_mk (shut_int Try.underlying5 w0) trodAll_mk0)) (fun _ _ => rfl) rfl
    (hg.frame _) hg.2.1 (ok_one (by kernel_rfl) rfl (okWide_bool_mk Try.underlying4 _))⟩

theorem over : Rows.fnIsDigitWindowOfTenRow.holds Try.pinned (OpenSpec.ofChange Rows.fnIsDigitWindowOfTenSpec) :=
  OpenClaim.holds_of_wide 3 Try.f3 rfl rfl rfl rfl rfl rfl rfl ⟨rfl, rfl, rfl, rfl, rfl⟩ rfl rfl rfl rfl rfl (by kernel_rfl) Try.func3 (by kernel_rfl)
    (of_decide_eq_true (by kernel_rfl)) (by unfold Func.isWrapper; first | (rw [if_pos (by decide +kernel)]; kernel_rfl) | (rw [if_neg (by decide +kernel)]; exact ⟨rfl, rfl⟩))
    (fun os started H enc _ => lifted os started H enc)

/-- ████ THE STATEMENT ████ -/
theorem proved : Rows.FnIsDigitWindowOfTenSaid :=
  over
end Go.Proofs.Qxb6613892a.fnIsDigitWindowOfTen
