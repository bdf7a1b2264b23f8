/-
  The law FnSmGuaranteedLeastRounds: the least rounds that guarantee SM(m) are m plus the loyal generals' diameter. The row.
-/
import Derived.Test.Qxb6613861aArgs
import Derived.Test.Qxb6613861aLaw4
namespace Go.Proofs.Qxb6613861a.fnSmGuaranteedLeastRounds
open Go.ChangeShapes Go.WideShapes Go.ChangeAt Go.RowKit
set_option linter.unusedVariables false

theorem own : ownKnob Try.prog.godebug = none := by kernel_rfl
theorem laidOut : laidOutB Try.prog = true := by kernel_rfl

theorem walk (n m : Int) (ao bo : Option Addr) (len cap tl tc : Nat) (A : Nat → Option Addr) (L C : Nat → Nat) (Z : Nat → List Int) (ts : List Int) (w : World)
    (hL : Lines w ao len A L C Z) (hao : ao = none → len = 0 ∧ cap = 0) (hI : Ints w bo tl ts) (hbo : bo = none → tl = 0 ∧ tc = 0)
    (wn : (Lit.int .i64 n).wf = true) (wm : (Lit.int .i64 m).wf = true) :
    Calls Try.prog 4 #[.int .i64 n, .int .i64 m, .slice ao len cap, .slice bo tl tc] w fun e w' => e = .returned (.bool true) ∧ Below w.heap.size w w' := by
  have h14 := bytes14_any n m ao bo len cap tl tc A L C Z w hL
  have h6 := nested_any ao len cap A L C Z w hL
  by_cases hb : n < 0 ∨ (0 ≤ n ∧ 256 < n) ∨ (0 ≤ n ∧ n ≤ 256 ∧ m < 0) ∨ (0 ≤ n ∧ n ≤ 256 ∧ 0 ≤ m ∧ 9223372036854775295 < m)
  · exact Least.law4_out n m _ bo tl tc w h14 h6 hb
  · obtain ⟨nn, rfl⟩ : ∃ nn : Nat, n = (nn : Int) := ⟨n.toNat, by omega⟩
    refine Least.law4_in nn m _ bo tl tc ts w hI hbo (by omega) (by omega) (by omega) h14 h6 ?_
    cases ao with
    | none =>
      obtain ⟨rfl, rfl⟩ := hao rfl
      exact valid_adj_nil nn w (by omega)
    | some a => exact valid_adj_some nn a len cap A L C Z w hL (by omega)

set_option maxRecDepth 100000 in
theorem lifted (os : Os) (started : os.Started) (H : Type) (enc : TypeId × Value → H) :
    ReturnsInHanded {} Try.checked os 4 .any (Rows.fnSmGuaranteedLeastRoundsSpec.pre6 enc Try.prog Try.f4 Rows.fnSmGuaranteedLeastRoundsRow.domain false) (Rows.fnSmGuaranteedLeastRoundsSpec.post enc Try.prog Try.f4 false true false false) := by
  refine returnsInHanded_of_change (C := Try.checked) own started (by kernel_rfl) Try.func4
    (ChangeSpec.witness6 (enc := enc) (C := Try.checked) false ⟨#[], #[.int .i64 0, .int .i64 0, .slice none 0 0, .slice none 0 0], []⟩ 8 (by kernel_rfl) (by kernel_rfl) (by kernel_rfl) (by kernel_rfl)) ?_
  intro W base args ds gs before hval0 hW hcnd _
  have hval : ∀ (j : Nat) t v, Try.f4.params[j]? = some t → args[j]? = some v → Value.okWide Try.prog W .any base t v := hval0
  have hW' := hW
  obtain ⟨p, q, hA0, hV, rfl, hfz, hnd⟩ := hW
  have hA : DataW.TrodAll enc Try.prog W 0 (fun _ => true) true Try.f4.params.toList args.toList ds p := hA0
  rw [Try.params4] at hA hval
  obtain ⟨v0, vs0, d0, ds0, p0, q0, hargs, rfl, rfl, h0, r0⟩ := trodAll_cons hA
  obtain ⟨v1, vs1, d1, ds1, p1, q1, rfl, rfl, rfl, h1, r1⟩ := trodAll_cons r0
  obtain ⟨v2, vs2, d2, ds2, p2, q2, rfl, rfl, rfl, h2, r2⟩ := trodAll_cons r1
  obtain ⟨v3, vs3, d3, ds3, p3, q3, rfl, rfl, rfl, h3, r3⟩ := trodAll_cons r2
  obtain ⟨rfl, rfl, rfl⟩ := trodAll_nil r3
  obtain rfl : args = #[v0, v1, v2, v3] := by cases args; simp_all
  obtain ⟨rfl, rfl⟩ := trodVars_none hV
  obtain ⟨a0, rfl, rfl, rfl, w0⟩ := open_int Try.underlying3 (hval 0 3 v0 rfl rfl) h0
  obtain ⟨a1, rfl, rfl, rfl, w1⟩ := open_int Try.underlying3 (hval 1 3 v1 rfl rfl) h1
  obtain ⟨a2, len2, cap2, rfl⟩ := okWide_slice Try.underlying22 (hval 2 22 v2 rfl rfl)
  have k2 := h2
  have lt2 : ∀ x ∈ p2, x.block < W.heap.size := by obtain ⟨m, hm⟩ := k2; exact DataW.trod_lt m _ _ _ hm
  obtain ⟨A, L, C, Z, hL, hao⟩ := (show ∃ A L C Z, Lines W a2 len2 A L C Z ∧ (a2 = none → len2 = 0 ∧ cap2 = 0) by
    obtain ⟨fuel, hf⟩ := h2
    exact lines_arg hf)
  obtain ⟨a3, len3, cap3, rfl⟩ := okWide_slice Try.underlying23 (hval 3 23 v3 rfl rfl)
  have k3 := h3
  have lt3 : ∀ x ∈ p3, x.block < W.heap.size := by obtain ⟨m, hm⟩ := k3; exact DataW.trod_lt m _ _ _ hm
  obtain ⟨ts, hI, hbo⟩ := (show ∃ ts, Ints W a3 len3 ts ∧ (a3 = none → len3 = 0 ∧ cap3 = 0) by
    obtain ⟨fuel, hf⟩ := h3
    exact ints_arg (fun _ => rfl) hf)
  clear hA0 hval0
  refine (walk a0 a1 a2 a3 len2 cap2 len3 cap3 A L C Z ts W hL hao hI hbo w0 w1).mono fun e W' ⟨he, bel⟩ => ?_
  subst he
  exact ⟨_, rfl, _, _, _, [], _, [], hW', trodAll_mk1 (shut_bool Try.underlying4 _), (trodAll_cons_mk (shut_int Try.underlying3 w0) (trodAll_cons_mk (shut_int Try.underlying3 w1)
    (trodAll_cons_mk (Below.trod laidOut (by kernel_rfl) (of_decide_eq_true (by kernel_rfl)) k2 bel lt2) (trodAll_cons_mk (Below.trod laidOut (by kernel_rfl) (of_decide_eq_true (by kernel_rfl)) k3 bel lt3) trodAll_mk0)))), rfl, bel.frame _, fun h => by cases h⟩

theorem over : Rows.fnSmGuaranteedLeastRoundsRow.holds Try.pinned (OpenSpec.ofChange Rows.fnSmGuaranteedLeastRoundsSpec) :=
  OpenClaim.holds_of_wide 4 Try.f4 rfl rfl rfl rfl rfl rfl rfl ⟨rfl, rfl, rfl, rfl, rfl⟩ rfl rfl rfl rfl rfl (by kernel_rfl) Try.func4 (by kernel_rfl)
    (of_decide_eq_true (by kernel_rfl)) (by unfold Func.isWrapper; first | (rw [if_pos (by decide +kernel)]; kernel_rfl) | (rw [if_neg (by decide +kernel)]; exact ⟨rfl, rfl⟩))
    (fun os started H enc _ => lifted os started H enc)

theorem proved : Rows.FnSmGuaranteedLeastRoundsSaid := over
end Go.Proofs.Qxb6613861a.fnSmGuaranteedLeastRounds
